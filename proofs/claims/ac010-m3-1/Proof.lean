import JvmDerived
import JvmDerived.Pilot.@@N@@Statement
import JvmDerived.Pilot.@@N@@Code
set_option linter.unusedVariables false
set_option linter.unusedSimpArgs false
namespace Jvm.Pilot.@@N@@
section OwnFP
open Jvm Jvm.FP Jvm.FP.Core
/-! doubles: the exact products by 2^-40, the one rounded sum (by the library's monotone rounding), the comparison -/
theorem own_K : val64 4427038433705197568 = .fin false (2 ^ 52) (-92) := by decide +kernel
theorem own_R : val64 4472406533629990549 = .fin false 4835703278458517 (-82) := by decide +kernel
theorem own_qmin : b64.qmin = -1074 := by decide
theorem own_qmax : b64.qmax = 971 := by decide
theorem own_p : b64.p = 53 := by decide
/-- c * 2^q in units of the format's least number, where it fits -/
theorem own_dat (s : Bool) {n : Nat} {q : Int} (hn : n < 2 ^ 53) (h1 : -1074 ≤ q) (h2 : q ≤ 971) : ∃ c' q', round b64 (.fin s n q) = .fin s c' q' ∧ inUnits c' q' b64.qmin = n * 2 ^ (q + 1074).toNat := by
  obtain ⟨c', q', e1, e2⟩ := round_exact good_b64 s (c := n) (q := q) (by rw [own_p]; exact hn) (by rw [own_qmin]; exact h1) (by rw [own_qmax]; exact h2)
  refine ⟨c', q', e1, e2.trans ?_⟩
  rw [own_qmin]; unfold inUnits
  rw [show q - (-1074) = q + 1074 by omega]
theorem own_signed (i : Int) (k : Nat) : signed (decide (i < 0)) (i.natAbs * k) = i * (k : Int) := by
  unfold signed
  by_cases h : i < 0
  · simp only [h, decide_true, if_true]
    have : (i.natAbs : Int) = -i := by omega
    rw [Int.natCast_mul, this, Int.neg_mul, Int.neg_neg]
  · simp only [h, decide_false, Bool.false_eq_true, if_false]
    have : (i.natAbs : Int) = i := by omega
    rw [Int.natCast_mul, this]
/-- the datum of i * 2^q -/
theorem own_V (i : Int) {q : Int} (hn : i.natAbs < 2 ^ 53) (h1 : -1074 ≤ q) (h2 : q ≤ 971) : ∃ c' q', round b64 (.fin (decide (i < 0)) i.natAbs q) = .fin (decide (i < 0)) c' q' ∧ Core.fits b64 (.fin (decide (i < 0)) c' q') ∧ zval b64 (.fin (decide (i < 0)) c' q') = i * ((2 ^ (q + 1074).toNat : Nat) : Int) := by
  obtain ⟨c', q', e1, e2⟩ := own_dat (decide (i < 0)) hn h1 h2
  refine ⟨c', q', e1, e1 ▸ round_fits good_b64 _, ?_⟩
  show signed (decide (i < 0)) (inUnits c' q' b64.qmin) = _
  rw [e2]; exact own_signed i _
theorem own_mul (A : Int64) (hA : A.toInt.natAbs < 2 ^ 53) : val64 (FP.dmul (FP.l2d A) 4427038433705197568) = round b64 (.fin (decide (A.toInt < 0)) A.toInt.natAbs (-40)) := by
  have h := val64_dmul (FP.l2d A) 4427038433705197568
  refine h.trans ?_
  rw [own_K, show val64 (FP.l2d A) = round b64 (ofInt A.toInt) from val64_l2d A]
  obtain ⟨c, q, e1, e2⟩ := own_dat (decide (A.toInt < 0)) (n := A.toInt.natAbs) (q := 0) hA (by decide) (by decide)
  have hf := e1 ▸ round_fits good_b64 (.fin (decide (A.toInt < 0)) A.toInt.natAbs 0)
  show round b64 (exactProduct (round b64 (.fin (decide (A.toInt < 0)) A.toInt.natAbs 0)) _) = _
  rw [e1]
  have hq : -1074 ≤ q := by have := hf.2.1; rw [own_qmin] at this; exact this
  rw [own_qmin] at e2
  unfold inUnits at e2
  generalize A.toInt.natAbs = n at *
  generalize decide (A.toInt < 0) = s at *
  show round b64 (.fin (s != false) (c * 2 ^ 52) (q + -92)) = _
  rw [show (s != false) = s by cases s <;> rfl]
  show roundRatio b64 s (c * 2 ^ 52) 1 (q + -92) = roundRatio b64 s n 1 (-40)
  refine roundRatio_congr (by decide) (by decide) ?_
  obtain ⟨k, hk⟩ : ∃ k : Nat, (k : Int) = q + 1074 := ⟨(q + 1074).toNat, by omega⟩
  rw [show (q - -1074).toNat = k by omega, show ((0 : Int) + 1074).toNat = 1074 by decide] at e2
  by_cases h : 1126 ≤ k
  · obtain ⟨j, rfl⟩ := Nat.exists_eq_add_of_le h
    rw [show (q + -92 - -40).toNat = j by omega, show (-40 - (q + -92)).toNat = 0 by omega]
    have e3 : c * 2 ^ 52 * 2 ^ j = n := by
      refine Nat.eq_of_mul_eq_mul_right (Nat.two_pow_pos 1074) ?_
      rw [← e2, Nat.mul_assoc, Nat.mul_assoc, ← Nat.pow_add, ← Nat.pow_add, show 52 + (j + 1074) = 1126 + j by omega]
    simp only [Nat.mul_one, Nat.pow_zero]
    exact e3
  · obtain ⟨j, hj⟩ := Nat.exists_eq_add_of_le (Nat.le_of_lt (Nat.lt_of_not_le h))
    rw [show (q + -92 - -40).toNat = 0 by omega, show (-40 - (q + -92)).toNat = j by omega]
    have e3 : c * 2 ^ 52 = n * 2 ^ j := by
      refine Nat.eq_of_mul_eq_mul_right (Nat.two_pow_pos k) ?_
      rw [Nat.mul_assoc, Nat.mul_comm (2 ^ 52), ← Nat.mul_assoc, e2, Nat.mul_assoc, Nat.mul_assoc, ← Nat.pow_add, ← Nat.pow_add, show 1074 + 52 = j + k by omega]
    simp only [Nat.mul_one, Nat.pow_zero]
    exact e3
theorem own_units (c : Nat) {q e e' : Int} (h1 : e ≤ q) (h2 : e' ≤ e) : inUnits c q e * 2 ^ (e - e').toNat = inUnits c q e' := by
  unfold inUnits
  rw [Nat.mul_assoc, ← Nat.pow_add, show (q - e).toNat + (e - e').toNat = (q - e').toNat by omega]
theorem own_smul (s : Bool) (c k : Nat) : signed s (c * k) = signed s c * (k : Int) := by
  cases s <;> simp [signed, Int.natCast_mul, Int.neg_mul]
theorem own_sum (s t : Bool) (c d : Nat) {q r e0 : Int} (h1 : e0 ≤ q) (h2 : e0 ≤ r) : ∃ sg n, exactSum (.fin s c q) (.fin t d r) = .fin sg n (min q r) ∧ e0 ≤ min q r ∧ signed sg (inUnits n (min q r) e0) = signed s (inUnits c q e0) + signed t (inUnits d r e0) := by
  refine ⟨_, _, rfl, by omega, ?_⟩
  obtain ⟨m, hm⟩ : ∃ m, m = min q r := ⟨_, rfl⟩
  rw [← hm]
  have hq : m ≤ q := by omega
  have hr : m ≤ r := by omega
  have he : e0 ≤ m := by omega
  conv => lhs; rw [inUnits, own_smul, signed_sumSign]
  unfold sumUnits
  rw [Int.add_mul, ← own_smul, ← own_smul, own_units c hq he, own_units d hr he]
theorem own_top (x : UInt64) (A : Int) (hA : A.natAbs < 2 ^ 53) (hx : val64 x = round b64 (.fin (decide (A < 0)) A.natAbs (-40))) : ∃ s c q, val64 x = .fin s c q ∧ -1074 ≤ q ∧ zval b64 (val64 x) = A * ((2 ^ 1034 : Nat) : Int) := by
  obtain ⟨c, q, e1, hf, e2⟩ := own_V A (q := -40) hA (by decide) (by decide)
  refine ⟨_, c, q, hx.trans e1, by have := hf.2.1; rw [own_qmin] at this; exact this, ?_⟩
  rw [hx, e1, e2]
  rfl
theorem own_add (y : UInt64) (B : Int) (hB : (4 * B + 4399).natAbs < 2 ^ 53 ∧ (4 * B + 4397).natAbs < 2 ^ 53) (hy : ∃ s c q, val64 y = .fin s c q ∧ -1074 ≤ q ∧ zval b64 (val64 y) = B * ((2 ^ 1034 : Nat) : Int)) :
    val64 (FP.dadd y 4472406533629990549) ≠ .nan ∧ (4 * B + 4397) * ((2 ^ 1032 : Nat) : Int) ≤ zval b64 (val64 (FP.dadd y 4472406533629990549)) ∧ zval b64 (val64 (FP.dadd y 4472406533629990549)) ≤ (4 * B + 4399) * ((2 ^ 1032 : Nat) : Int) := by
  obtain ⟨s, c, q, h1, h2, h3⟩ := hy
  have e := val64_dadd y 4472406533629990549
  rw [h1, own_R] at e
  obtain ⟨sg, n, e1, e2, e3⟩ := own_sum s false c 4835703278458517 (q := q) (r := -82) (e0 := -1074) h2 (by decide)
  rw [e1] at e
  have z1 : signed s (inUnits c q (-1074)) = B * ((2 ^ 1034 : Nat) : Int) := by
    rw [← h3, h1]; show _ = signed s (inUnits c q b64.qmin); rw [own_qmin]
  have z2 : signed false (inUnits 4835703278458517 (-82) (-1074)) = 4835703278458517 * ((2 ^ 992 : Nat) : Int) := by
    have hu : inUnits 4835703278458517 (-82) (-1074) = 4835703278458517 * 2 ^ 992 := by unfold inUnits; rw [show ((-82 : Int) - -1074).toNat = 992 by decide]
    rw [hu, own_smul]
    exact congrArg (· * ((2 ^ 992 : Nat) : Int)) (show signed false 4835703278458517 = (4835703278458517 : Int) from rfl)
  rw [z1, z2] at e3
  have p1 : ((2 ^ 1034 : Nat) : Int) = 4 * ((2 ^ 1032 : Nat) : Int) := by rw [show (1034 : Nat) = 2 + 1032 from rfl, Nat.pow_add]; exact Int.natCast_mul _ _
  have p2 : ((2 ^ 1032 : Nat) : Int) = 1099511627776 * ((2 ^ 992 : Nat) : Int) := by rw [show (1032 : Nat) = 40 + 992 from rfl, Nat.pow_add]; exact Int.natCast_mul _ _
  have p3 : (0 : Int) < ((2 ^ 992 : Nat) : Int) := by have := Nat.two_pow_pos 992; omega
  have e' : val64 (FP.dadd y 4472406533629990549) = round b64 (.fin sg n (min q (-82))) := e
  obtain ⟨c1, q1, v1, f1, w1⟩ := own_V (4 * B + 4397) (q := -42) hB.2 (by decide) (by decide)
  obtain ⟨c2, q2, v2, f2, w2⟩ := own_V (4 * B + 4399) (q := -42) hB.1 (by decide) (by decide)
  rw [show ((-42 : Int) + 1074).toNat = 1032 by decide] at w1 w2
  have u : signed sg (inUnits n (min q (-82)) (-1074)) = (4 * B) * ((2 ^ 1032 : Nat) : Int) + 4835703278458517 * ((2 ^ 992 : Nat) : Int) := by rw [e3, p1, ← Int.mul_assoc, Int.mul_comm B 4]
  have a1 : zval b64 (.fin (decide (4 * B + 4397 < 0)) c1 q1) ≤ zval b64 (round b64 (.fin sg n (min q (-82)))) := by
    refine zval_round_ge good_b64 f1 Datum.noConfusion (e0 := -1074) (by rw [own_qmin]; exact Int.le_refl _) e2 ?_
    rw [u, w1, own_qmin, show ((-1074 : Int) - -1074).toNat = 0 by decide, Int.add_mul]
    rw [p2] at *
    generalize ((2 ^ 992 : Nat) : Int) = t at *
    simp only [Nat.pow_zero, Int.natCast_one, Int.mul_one]
    omega
  have a2 : zval b64 (round b64 (.fin sg n (min q (-82)))) ≤ zval b64 (.fin (decide (4 * B + 4399 < 0)) c2 q2) := by
    refine zval_round_le good_b64 f2 Datum.noConfusion (e0 := -1074) (by rw [own_qmin]; exact Int.le_refl _) e2 ?_
    rw [u, w2, own_qmin, show ((-1074 : Int) - -1074).toNat = 0 by decide, Int.add_mul]
    rw [p2] at *
    generalize ((2 ^ 992 : Nat) : Int) = t at *
    simp only [Nat.pow_zero, Int.natCast_one, Int.mul_one]
    omega
  rw [e']
  refine ⟨fun q => Datum.noConfusion (round_nan.mp q), ?_, ?_⟩
  · rw [← w1]; exact a1
  · rw [← w2]; exact a2
theorem own_cmp (x y : UInt64) (A B : Int) (hx : ∃ s c q, val64 x = .fin s c q ∧ -1074 ≤ q ∧ zval b64 (val64 x) = A * ((2 ^ 1034 : Nat) : Int)) (hy : val64 y ≠ .nan) (h1 : (4 * B + 4397) * ((2 ^ 1032 : Nat) : Int) ≤ zval b64 (val64 y)) (h2 : zval b64 (val64 y) ≤ (4 * B + 4399) * ((2 ^ 1032 : Nat) : Int)) :
    FP.dcmp x y = if A ≤ B + 1099 then some .lt else some .gt := by
  obtain ⟨s, c, q, e1, -, e3⟩ := hx
  have o : FP.dcmp x y = some (compare (zval b64 (val64 x)) (zval b64 (val64 y))) := order_zval good_b64 (val64_fits x) (val64_fits y) (show val64 x ≠ .nan by rw [e1]; exact Datum.noConfusion) hy
  have p1 : ((2 ^ 1034 : Nat) : Int) = 4 * ((2 ^ 1032 : Nat) : Int) := by rw [show (1034 : Nat) = 2 + 1032 from rfl, Nat.pow_add]; exact Int.natCast_mul _ _
  have p3 : (0 : Int) < ((2 ^ 1032 : Nat) : Int) := by have := Nat.two_pow_pos 1032; omega
  rw [e3, p1, ← Int.mul_assoc] at o
  rw [o]
  generalize ((2 ^ 1032 : Nat) : Int) = t at *
  generalize zval b64 (val64 y) = z at *
  by_cases h : A ≤ B + 1099
  · rw [if_pos h]
    have : A * 4 * t < (4 * B + 4397) * t := Int.mul_lt_mul_of_pos_right (by omega) p3
    have : A * 4 * t < z := by omega
    simp [compare, compareOfLessAndEq, this]
  · rw [if_neg h]
    have : (4 * B + 4399) * t < A * 4 * t := Int.mul_lt_mul_of_pos_right (by omega) p3
    have l1 : ¬ A * 4 * t < z := by omega
    have l2 : ¬ A * 4 * t = z := by omega
    simp [compare, compareOfLessAndEq, l1, l2]
end OwnFP
end Jvm.Pilot.@@N@@
namespace Jvm.Pilot.@@N@@
open Jvm Jvm.ClassFile Sem Op Lib Jvm.Free Jvm.Stand Jvm.LawKit Jvm.RoadKit Bundle Jvm.Pilot.@@N@@.Jvm.D
/-! the walk in the form of what is still to be run: own_Go T g says that the run from the frame g on T ends as promised -/
section OwnKit
variable {p : Program} {l : Launch} {e : Env} {R : Room} {s : State} {m : MethodId} {args : Array Value} {below : List Frame} {meth : Method} {c : Code} {T : State} {locs : List Loc} {cells slots : Nat} {Z : State} {h : Heap} {a0 : Array Value} {Q : Option Value → Heap → List Loc → Prop} {cm sm : Nat}
def own_Go (p : Program) (e : Env) (s : State) (below : List Frame) (Q : Option Value → Heap → List Loc → Prop) (cm sm : Nat) (T : State) (g : JFrame) : Prop :=
  ∃ (U : State) (o : Outcome), Steps p.tables e below (T.setTop g) U ∧ U.status = .running ∧ Ended U below o ∧ ∃ v L, o = .returned v ∧ Q v U.heap L ∧ FrameEnd s o U L cm sm
theorem own_st {T' : State} {g g' : JFrame} (h : ∀ t, Steps p.tables e below (T'.setTop g') t → Steps p.tables e below (T.setTop g) t) (k : own_Go p e s below Q cm sm T' g') : own_Go p e s below Q cm sm T g := by
  obtain ⟨U, o, h1, h2⟩ := k
  exact ⟨U, o, h U h1, h2⟩
abbrev own_Met (l : Launch) (Z : State) (y : MethodName) (bytes : ByteArray) (ml : Nat) (ret : Option FieldType) (rm : Room) (ws : List Jvm.Cond) (as : Array Value) (h : Heap) (Q : Option Value → Heap → List Loc → Prop) (cm sm : Nat) : Prop :=
  MetFree l y (head1 (Jvm.Cond.code y bytes ml ret :: ws) rm) (fun a U => a = as ∧ Z.Warmed39 U.vm ∧ U.heap = h) (fun _ _ _ _ _ => True) (fun _ U o U' => ∃ v L, o = .returned v ∧ Q v U'.heap L ∧ FrameEnd U o U' L cm sm)
theorem own_enter {y : MethodName} {bytes : ByteArray} {ml : Nat} {ret : Option FieldType} {rm : Room} {ws : List Jvm.Cond} {as : Array Value} {Ls : Array Slot}
    (hp : plainFor y = true) (hef : ∀ m, entryFrame m as ml = mkF m 0 Ls [])
    (body : ∀ (p : Program) (e : Env) (s : State) (m : MethodId) (below : List Frame) (meth : Method) (c : Code) (T : State), p.tables.exec = Jvm.exec → c.code = bytes → c.maxLocals = ml → s.vm.findClass y.cls = some m.cls → meth.name = y.name → meth.sig.returnType = ret → meth.locks = false → Z.Warmed39 s.vm →
      Stand p l e rm s m as below meth c T [] 0 0 → T.heap = h → own_Go p e s below Q cm sm T (mkF m 0 Ls [])) :
    own_Met l Z y bytes ml ret rm ws as h Q cm sm := by
  refine MetFree.of_bodySF hp hisR ?_
  intro p e s m args below meth c s₁ Bd hml0 hP hK
  obtain ⟨rfl, hZ, hh⟩ := hP
  obtain ⟨U, o, h1, h2⟩ := body p e s m below meth c s₁ Bd.exec Bd.bytes hml0 (findClass_of_methodNamed Bd.named) (name_of_methodNamed Bd.named Bd.method).1 Bd.returns (BodyLoose.notSynchronized Bd) hZ (Stand.of_body Bd) (by rw [← hh, Bd.state]; rfl)
  exact ⟨U, o, castTop (hef m) h1, h2⟩
/-! returns -/
theorem own_retN (X : Stand p l e R s m args below meth c T locs cells slots) (hx : p.tables.exec = Jvm.exec) (hlk : meth.locks = false) {t : FieldType} (hret : meth.sig.returnType = some t) (ht : t = .boolean ∨ t = .byte ∨ t = .char ∨ t = .short) {pc : Nat} {Ls : Array Slot} {z z' : Int32} {rest : List Value}
    (hd : decode c.code pc = .ok (.ireturn, 1)) (hz : nar t z = z') (hc : cells ≤ cm) (hs : slots ≤ sm) (hQ : Q (some (.int z')) T.heap locs) : own_Go p e s below Q cm sm T (mkF m pc Ls (.int z :: rest)) := by
  subst hz
  obtain ⟨fs, hr, hrun, hended, hW, hsame⟩ := X.leave (v := some (.int (nar t z))) (fun h => by rw [hret] at h; cases h) hlk
  exact ⟨_, _, retN X hx hret ht hd hr, hrun, hended, _, _, rfl, hQ, ⟨_, rfl⟩, hW, hsame.mono hc hs⟩
theorem own_retI (X : Stand p l e R s m args below meth c T locs cells slots) (hx : p.tables.exec = Jvm.exec) (hlk : meth.locks = false) (hret : meth.sig.returnType = some .int) {pc : Nat} {Ls : Array Slot} {z : Int32} {rest : List Value}
    (hd : decode c.code pc = .ok (.ireturn, 1)) (hc : cells ≤ cm) (hs : slots ≤ sm) (hQ : Q (some (.int z)) T.heap locs) : own_Go p e s below Q cm sm T (mkF m pc Ls (.int z :: rest)) := by
  obtain ⟨fs, hr, hrun, hended, hW, hsame⟩ := X.leave (v := some (.int z)) (fun h => by rw [hret] at h; cases h) hlk
  exact ⟨_, _, retOut X hx hret rfl (Or.inl ⟨rfl, Or.inl rfl, _, rfl⟩) hd hr, hrun, hended, _, _, rfl, hQ, ⟨_, rfl⟩, hW, hsame.mono hc hs⟩
theorem own_retJ (X : Stand p l e R s m args below meth c T locs cells slots) (hx : p.tables.exec = Jvm.exec) (hlk : meth.locks = false) (hret : meth.sig.returnType = some .long) {pc : Nat} {Ls : Array Slot} {z : Int64} {rest : List Value}
    (hd : decode c.code pc = .ok (.lreturn, 1)) (hc : cells ≤ cm) (hs : slots ≤ sm) (hQ : Q (some (.long z)) T.heap locs) : own_Go p e s below Q cm sm T (mkF m pc Ls (.long z :: rest)) := by
  obtain ⟨fs, hr, hrun, hended, hW, hsame⟩ := X.leave (v := some (.long z)) (fun h => by rw [hret] at h; cases h) hlk
  exact ⟨_, _, retOut X hx hret rfl (Or.inr (Or.inl ⟨rfl, rfl, _, rfl⟩)) hd hr, hrun, hended, _, _, rfl, hQ, ⟨_, rfl⟩, hW, hsame.mono hc hs⟩
theorem own_retR (X : Stand p l e R s m args below meth c T locs cells slots) (hx : p.tables.exec = Jvm.exec) (hlk : meth.locks = false) {t : FieldType} (hret : meth.sig.returnType = some t) (ht : t.isReference = true) {pc : Nat} {Ls : Array Slot} {w : Value} (hw : w.isRef = true) (hn : narrow t w = w) {rest : List Value}
    (hd : decode c.code pc = .ok (.areturn, 1)) (hc : cells ≤ cm) (hs : slots ≤ sm) (hQ : Q (some w) T.heap locs) : own_Go p e s below Q cm sm T (mkF m pc Ls (w :: rest)) := by
  obtain ⟨fs, hr, hrun, hended, hW, hsame⟩ := X.leave (v := some w) (fun h => by rw [hret] at h; cases h) hlk
  exact ⟨_, _, retOut X hx hret hn (Or.inr (Or.inr (Or.inr (Or.inr ⟨rfl, ht, hw⟩)))) hd hr, hrun, hended, _, _, rfl, hQ, ⟨_, rfl⟩, hW, hsame.mono hc hs⟩
theorem own_ret0 (X : Stand p l e R s m args below meth c T locs cells slots) (hx : p.tables.exec = Jvm.exec) (hlk : meth.locks = false) (hret : meth.sig.returnType = none) {pc : Nat} {Ls : Array Slot}
    (hd : decode c.code pc = .ok (.return_, 1)) (hc : cells ≤ cm) (hs : slots ≤ sm) (hQ : Q none T.heap locs) : own_Go p e s below Q cm sm T (mkF m pc Ls []) := by
  obtain ⟨fs, hr, hrun, hended, hW, hsame⟩ := X.leave (v := none) (fun _ => rfl) hlk
  exact ⟨_, _, X.returnOut hx hret hd hr, hrun, hended, _, _, rfl, hQ, ⟨_, rfl⟩, hW, hsame.mono hc hs⟩
/-! calls by the callee's contract -/
theorem own_callS (X : Stand p l e R s m args below meth c T locs cells slots) (hx : p.tables.exec = Jvm.exec) (hZ : Z.Warmed39 s.vm) {own : String} {index : Nat} {y : MethodName} {bytes : ByteArray} {maxL : Nat} {ret : Option FieldType} (hown : s.vm.findClass own = some m.cls)
    (w1 : (Jvm.Cond.methodLink own index y).before a0 Z = true) (w2 : (Jvm.Cond.static y).before a0 Z = true) (w3 : (Jvm.Cond.initialized y.cls).before a0 Z = true) (w4 : (Jvm.Cond.code y bytes maxL ret).before a0 Z = true)
    (hy : y.cls ≠ "java/lang/invoke/MethodHandle" ∧ y.cls ≠ "java/lang/invoke/VarHandle") {rm : Room} {as : Array Value} {Qc : Option Value → Heap → List Loc → Prop} (eT : T.heap = h)
    (hM : own_Met l Z y bytes maxL ret rm [] as h Qc rm.cells rm.slots) (W : Nat) (hf : rm.frames + 1 ≤ R.frames) (hl : W + (maxL + 11) + rm.locals ≤ R.locals)
    {g : JFrame} (hg : g.method = m) (hsize : g.locals.size = c.maxLocals) {argsL rest : List Value} {ps : List FieldType} {r : Option FieldType} (hpd : parseMethodDescriptor y.desc = some ⟨ps, r⟩) (hlen : argsL.length = ps.length) (has : argsL.toArray = as)
    (hstack : g.stack = argsL.reverse ++ rest) (hW : 2 * g.monitorRoom + (rest.map fun v => v.category).sum ≤ W) (hdg : decode c.code g.pc = .ok (.invokestatic index, 3)) (hc : cells + rm.cells ≤ R.cells) (hs : slots + rm.slots ≤ R.slots)
    (k : ∀ (T' : State) (v : Option Value) (Lc : List Loc), Stand p l e R s m args below meth c T' (locs ++ Lc) (cells + rm.cells) (slots + rm.slots) → Qc v T'.heap Lc → own_Go p e s below Q cm sm T' { g with pc := g.pc + 3, stack := v.toList ++ rest }) :
    own_Go p e s below Q cm sm T g := by
  obtain ⟨v, _, ⟨T', L', k', n'⟩, -, X', ⟨Lc, hQ, l1, y1, z1⟩, st⟩ := Jvm.LawKit.callS X hx (y := y) hown (mvT hZ w1) (mvT hZ w2) (mvT hZ w3) (mvT hZ w4) hy (backOf (W := W) hM hZ w4 w3 hf hl) hg hsize (argsL := argsL) (rest := rest) (lenOf hpd hlen) hstack hW hdg (fun _ _ => ⟨has, eT, hc, hs⟩)
  dsimp only [Pt.U, Pt.locs, Pt.cells, Pt.slots] at X' l1 y1 z1 st hQ
  subst l1 y1 z1
  exact own_st st (k T' v Lc X' hQ)
theorem own_callN (X : Stand p l e R s m args below meth c T locs cells slots) (hx : p.tables.exec = Jvm.exec) (hZ : Z.Warmed39 s.vm) {own : String} {index : Nat} {y : MethodName} {bytes : ByteArray} {maxL : Nat} (hy1 : y.name = "<init>") (hown : s.vm.findClass own = some m.cls)
    (w1 : (Jvm.Cond.methodLink own index y).before a0 Z = true) (w2 : (Jvm.Cond.instanceMethod y).before a0 Z = true) (w3 : (Jvm.Cond.initialized y.cls).before a0 Z = true) (w4 : (Jvm.Cond.code y bytes maxL none).before a0 Z = true)
    (hy : y.cls ≠ "java/lang/invoke/MethodHandle" ∧ y.cls ≠ "java/lang/invoke/VarHandle") {rm : Room} {as : Array Value} {Qc : Option Value → Heap → List Loc → Prop} (eT : T.heap = h)
    (hM : own_Met l Z y bytes maxL none rm [] as h Qc rm.cells rm.slots) (W : Nat) (hf : rm.frames + 1 ≤ R.frames) (hl : W + (maxL + 11) + rm.locals ≤ R.locals)
    {g : JFrame} (hg : g.method = m) (hsize : g.locals.size = c.maxLocals) {a : Addr} {argsL rest : List Value} {ps : List FieldType} {r : Option FieldType} (hpd : parseMethodDescriptor y.desc = some ⟨ps, r⟩) (hlen : argsL.length = ps.length) (has : (Value.ref a :: argsL).toArray = as)
    (hstack : g.stack = argsL.reverse ++ .ref a :: rest) (hW : 2 * g.monitorRoom + (rest.map fun v => v.category).sum ≤ W) (hdg : decode c.code g.pc = .ok (.invokespecial index, 3)) (hc : cells + rm.cells ≤ R.cells) (hs : slots + rm.slots ≤ R.slots)
    (k : ∀ (T' : State) (v : Option Value) (Lc : List Loc), Stand p l e R s m args below meth c T' (locs ++ Lc) (cells + rm.cells) (slots + rm.slots) → Qc v T'.heap Lc → own_Go p e s below Q cm sm T' { g with pc := g.pc + 3, stack := v.toList ++ rest }) :
    own_Go p e s below Q cm sm T g := by
  obtain ⟨v, _, ⟨T', L', k', n'⟩, -, X', ⟨Lc, hQ, l1, y1, z1⟩, st⟩ := X.specialBack hx (y := y) hy1 hown (mvT hZ w1) (mvT hZ w2) (mvT hZ w4) hy (backOf (W := W) hM hZ w4 w3 hf hl) hg hsize (Steps.refl _) (a := a) (argsL := argsL) (rest := rest) (lenOf hpd hlen) hstack hW hdg (fun _ _ => ⟨has, eT, hc, hs⟩)
  dsimp only [Pt.U, Pt.locs, Pt.cells, Pt.slots] at X' l1 y1 z1 st hQ
  subst l1 y1 z1
  exact own_st (fun _ q => st.trans q) (k T' v Lc X' hQ)
theorem own_callV (X : Stand p l e R s m args below meth c T locs cells slots) (hx : p.tables.exec = Jvm.exec) (hZ : Z.Warmed39 s.vm) {own C : String} {index : Nat} {y : MethodName} {bytes : ByteArray} {maxL : Nat} {ret : Option FieldType} (hown : s.vm.findClass own = some m.cls)
    (w1 : (Jvm.Cond.methodLink own index y).before a0 Z = true) (w2 : (Jvm.Cond.declares y).before a0 Z = true) (w5 : (Jvm.Cond.selects C y y).before a0 Z = true) (w6 : (Jvm.Cond.instanceMethod y).before a0 Z = true) (w3 : (Jvm.Cond.initialized y.cls).before a0 Z = true) (w4 : (Jvm.Cond.code y bytes maxL ret).before a0 Z = true)
    (hy : y.cls ≠ "java/lang/invoke/MethodHandle" ∧ y.cls ≠ "java/lang/invoke/VarHandle") {rm : Room} {as : Array Value} {Qc : Option Value → Heap → List Loc → Prop} (eT : T.heap = h)
    (hM : own_Met l Z y bytes maxL ret rm [] as h Qc rm.cells rm.slots) (W : Nat) (hf : rm.frames + 1 ≤ R.frames) (hl : W + (maxL + 11) + rm.locals ≤ R.locals) {a : Addr} (E : Exa Z h a C)
    {g : JFrame} (hg : g.method = m) (hsize : g.locals.size = c.maxLocals) {argsL rest : List Value} {ps : List FieldType} {r : Option FieldType} (hpd : parseMethodDescriptor y.desc = some ⟨ps, r⟩) (hlen : argsL.length = ps.length) (has : (Value.ref a :: argsL).toArray = as)
    (hstack : g.stack = argsL.reverse ++ .ref a :: rest) (hW : 2 * g.monitorRoom + (rest.map fun v => v.category).sum ≤ W) (hdg : decode c.code g.pc = .ok (.invokevirtual index, 3)) (hc : cells + rm.cells ≤ R.cells) (hs : slots + rm.slots ≤ R.slots)
    (k : ∀ (T' : State) (v : Option Value) (Lc : List Loc), Stand p l e R s m args below meth c T' (locs ++ Lc) (cells + rm.cells) (slots + rm.slots) → Qc v T'.heap Lc → own_Go p e s below Q cm sm T' { g with pc := g.pc + 3, stack := v.toList ++ rest }) :
    own_Go p e s below Q cm sm T g := by
  obtain ⟨cq, kq, qa, qb, qc⟩ := isOf hZ eT E
  obtain ⟨v, _, ⟨T', L', k', n'⟩, -, X', ⟨Lc, hQ, l1, y1, z1⟩, st⟩ := X.virtualBack hx (y := y) (z := y) hown (mvT hZ w1) (mvT hZ w2) (notFace_of_selects (args := #[]) (mvT hZ w5)) (mvT hZ w5) (mvT hZ w6) hy (backOf (W := W) hM hZ w4 w3 hf hl) qa qc hg hsize (Steps.refl _) (argsL := argsL) (rest := rest) (lenOf hpd hlen) hstack hW hdg (fun _ _ => ⟨has, eT, hc, hs⟩)
  dsimp only [Pt.U, Pt.locs, Pt.cells, Pt.slots] at X' l1 y1 z1 st hQ
  subst l1 y1 z1
  exact own_st (fun _ q => st.trans q) (k T' v Lc X' hQ)
/-! arrays by the list of their values -/
theorem own_ix {n j : Int32} {vs : List Value} {d : Value} {a : Addr} {k : ClassId} {ty : FieldType} (V : Arv Z h a k ty n vs d) (hj : ¬ j < 0 ∧ j < n) : ∃ cl : Cell, Arr Z h a cl ty ∧ ¬ (j < 0 ∨ cl.slots.size ≤ j.toNatClampNeg) ∧ cl.slots[j.toNatClampNeg]? = some (vs.getD j.toNatClampNeg d) := by
  obtain ⟨cl, A, -, S, N, H, -⟩ := V
  have q := inb_of S hj
  exact ⟨cl, A, q, H _ (Nat.lt_of_not_le fun y => q (Or.inr y))⟩
theorem own_len (X : Stand p l e R s m args below meth c T locs cells slots) (hx : p.tables.exec = Jvm.exec) (hZ : Z.Warmed39 s.vm) (eT : T.heap = h) {a : Addr} {k : ClassId} {ty : FieldType} {n : Int32} {vs : List Value} {d : Value} (V : Arv Z h a k ty n vs d)
    {g : JFrame} (hg : g.method = m) {rest : List Value} (hs : g.stack = .ref a :: rest) (hd : decode c.code g.pc = .ok (.arraylength, 1)) :
    ∀ t, Steps p.tables e below (T.setTop { g with pc := g.pc + 1, stack := .int n :: rest }) t → Steps p.tables e below (T.setTop g) t := by
  obtain ⟨cl, A, -, S, N, -, -⟩ := V
  intro t k
  refine X.arraylength hx (by rw [eT]; exact A.1) (State.isArrayOf_alike hZ.alike A.2.1) hg hs hd t ?_
  rw [len_of S N]; exact k
theorem own_ldI (X : Stand p l e R s m args below meth c T locs cells slots) (hx : p.tables.exec = Jvm.exec) (hZ : Z.Warmed39 s.vm) (eT : T.heap = h) {a : Addr} {k : ClassId} {n : Int32} {vs : List Value} {d : Value} (V : Arv Z h a k .int n vs d) {j x : Int32} (hj : ¬ j < 0 ∧ j < n) (hv : vs.getD j.toNatClampNeg d = .int x)
    {g : JFrame} (hg : g.method = m) {rest : List Value} (hs : g.stack = .int j :: .ref a :: rest) (hd : decode c.code g.pc = .ok (.iaload, 1)) :
    ∀ t, Steps p.tables e below (T.setTop { g with pc := g.pc + 1, stack := .int x :: rest }) t → Steps p.tables e below (T.setTop g) t := by
  obtain ⟨cl, A, q, H⟩ := own_ix V hj
  exact X.iaload hx (j := j) (v := .int x) (by rw [eT]; exact A.1) (State.isArrayOf_alike hZ.alike A.2.1) A.2.2 q (hv ▸ H) hg hs hd
theorem own_ldB (X : Stand p l e R s m args below meth c T locs cells slots) (hx : p.tables.exec = Jvm.exec) (hZ : Z.Warmed39 s.vm) (eT : T.heap = h) {a : Addr} {k : ClassId} {n : Int32} {vs : List Value} {d : Value} (V : Arv Z h a k .byte n vs d) {j x : Int32} (hj : ¬ j < 0 ∧ j < n) (hv : vs.getD j.toNatClampNeg d = .int x)
    {g : JFrame} (hg : g.method = m) {rest : List Value} (hs : g.stack = .int j :: .ref a :: rest) (hd : decode c.code g.pc = .ok (.baload, 1)) :
    ∀ t, Steps p.tables e below (T.setTop { g with pc := g.pc + 1, stack := .int x :: rest }) t → Steps p.tables e below (T.setTop g) t := by
  obtain ⟨cl, A, q, H⟩ := own_ix V hj
  exact X.baloadBytes hx (j := j) (v := .int x) (by rw [eT]; exact A.1) (State.isArrayOf_alike hZ.alike A.2.1) A.2.2 q (hv ▸ H) hg hs hd
theorem own_ldJ (X : Stand p l e R s m args below meth c T locs cells slots) (hx : p.tables.exec = Jvm.exec) (hZ : Z.Warmed39 s.vm) (eT : T.heap = h) {a : Addr} {k : ClassId} {n : Int32} {vs : List Value} {d : Value} (V : Arv Z h a k .long n vs d) {j : Int32} {x : Int64} (hj : ¬ j < 0 ∧ j < n) (hv : vs.getD j.toNatClampNeg d = .long x)
    {g : JFrame} (hg : g.method = m) {rest : List Value} (hs : g.stack = .int j :: .ref a :: rest) (hd : decode c.code g.pc = .ok (.laload, 1)) :
    ∀ t, Steps p.tables e below (T.setTop { g with pc := g.pc + 1, stack := .long x :: rest }) t → Steps p.tables e below (T.setTop g) t := by
  obtain ⟨cl, A, q, H⟩ := own_ix V hj
  exact X.laload hx (j := j) (v := .long x) (by rw [eT]; exact A.1) (State.isArrayOf_alike hZ.alike A.2.1) A.2.2 q (hv ▸ H) hg hs hd
theorem own_stI (X : Stand p l e R s m args below meth c T locs cells slots) (hx : p.tables.exec = Jvm.exec) (hZ : Z.Warmed39 s.vm) (eT : T.heap = h) {a : Addr} {k : ClassId} {n : Int32} {vs : List Value} {d : Value} (V : Arv Z h a k .int n vs d) {j x : Int32} (hj : ¬ j < 0 ∧ j < n) (hl : j.toNatClampNeg < vs.length)
    {g : JFrame} (hg : g.method = m) {rest : List Value} (hs : g.stack = .int x :: .int j :: .ref a :: rest) (hd : decode c.code g.pc = .ok (.iastore, 1)) :
    ∃ T' h', Stand p l e R s m args below meth c T' (locs ++ [⟨a, j.toNatClampNeg⟩]) cells slots ∧ T'.heap = h' ∧ Wr h h' a j.toNatClampNeg (.int x) ∧ Arv Z h' a k .int n (vs.set j.toNatClampNeg (.int x)) d ∧ ∀ t, Steps p.tables e below (T'.setTop { g with pc := g.pc + 1, stack := rest }) t → Steps p.tables e below (T.setTop g) t := by
  obtain ⟨cl, A, q1, S, N, H, G⟩ := V
  obtain ⟨T', h', X', e', W, st⟩ := stI X hx hZ eT A (j := j) (inb_of S hj) hg hs hd
  exact ⟨T', h', X', e', W, Arv.set A q1 S N H G rfl W _ rfl hl, st⟩
theorem own_stJ (X : Stand p l e R s m args below meth c T locs cells slots) (hx : p.tables.exec = Jvm.exec) (hZ : Z.Warmed39 s.vm) (eT : T.heap = h) {a : Addr} {k : ClassId} {n : Int32} {vs : List Value} {d : Value} (V : Arv Z h a k .long n vs d) {j : Int32} {x : Int64} (hj : ¬ j < 0 ∧ j < n) (hl : j.toNatClampNeg < vs.length)
    {g : JFrame} (hg : g.method = m) {rest : List Value} (hs : g.stack = .long x :: .int j :: .ref a :: rest) (hd : decode c.code g.pc = .ok (.lastore, 1)) :
    ∃ T' h', Stand p l e R s m args below meth c T' (locs ++ [⟨a, j.toNatClampNeg⟩]) cells slots ∧ T'.heap = h' ∧ Wr h h' a j.toNatClampNeg (.long x) ∧ Arv Z h' a k .long n (vs.set j.toNatClampNeg (.long x)) d ∧ ∀ t, Steps p.tables e below (T'.setTop { g with pc := g.pc + 1, stack := rest }) t → Steps p.tables e below (T.setTop g) t := by
  obtain ⟨cl, A, q1, S, N, H, G⟩ := V
  obtain ⟨T', h', X', e', W, st⟩ := stJ X hx hZ eT A (j := j) (inb_of S hj) hg hs hd
  exact ⟨T', h', X', e', W, Arv.set A q1 S N H G rfl W _ rfl hl, st⟩
theorem own_stB (X : Stand p l e R s m args below meth c T locs cells slots) (hx : p.tables.exec = Jvm.exec) (hZ : Z.Warmed39 s.vm) (eT : T.heap = h) {a : Addr} {k : ClassId} {n : Int32} {vs : List Value} {d : Value} (V : Arv Z h a k .byte n vs d) {j x x' : Int32} (hj : ¬ j < 0 ∧ j < n) (hl : j.toNatClampNeg < vs.length) (hn : x.toInt8.toInt32 = x')
    {g : JFrame} (hg : g.method = m) {rest : List Value} (hs : g.stack = .int x :: .int j :: .ref a :: rest) (hd : decode c.code g.pc = .ok (.bastore, 1)) :
    ∃ T' h', Stand p l e R s m args below meth c T' (locs ++ [⟨a, j.toNatClampNeg⟩]) cells slots ∧ T'.heap = h' ∧ Wr h h' a j.toNatClampNeg (.int x') ∧ Arv Z h' a k .byte n (vs.set j.toNatClampNeg (.int x')) d ∧ ∀ t, Steps p.tables e below (T'.setTop { g with pc := g.pc + 1, stack := rest }) t → Steps p.tables e below (T.setTop g) t := by
  subst hn
  obtain ⟨cl, A, q1, S, N, H, G⟩ := V
  obtain ⟨T', h', X', e', W, st⟩ := stB X hx hZ eT A (j := j) (inb_of S hj) hg hs hd
  exact ⟨T', h', X', e', W, Arv.set A q1 S N H G (fits_nar_byte _) W _ rfl hl, st⟩
theorem own_ldR (X : Stand p l e R s m args below meth c T locs cells slots) (hx : p.tables.exec = Jvm.exec) (hZ : Z.Warmed39 s.vm) (eT : T.heap = h) {a : Addr} {k : ClassId} {ty : FieldType} {n : Int32} {vs : List Value} {d : Value} (V : Arv Z h a k ty n vs d) (hty : ty.isReference = true) {j : Int32} {v : Value} (hj : ¬ j < 0 ∧ j < n) (hv : vs.getD j.toNatClampNeg d = v)
    {g : JFrame} (hg : g.method = m) {rest : List Value} (hs : g.stack = .int j :: .ref a :: rest) (hd : decode c.code g.pc = .ok (.aaload, 1)) :
    ∀ t, Steps p.tables e below (T.setTop { g with pc := g.pc + 1, stack := v :: rest }) t → Steps p.tables e below (T.setTop g) t := by
  obtain ⟨cl, A, q, H⟩ := own_ix V hj
  exact X.aaload hx (j := j) (v := v) (by rw [eT]; exact A.1) (State.isArrayOf_alike hZ.alike A.2.1) hty A.2.2 q (hv ▸ H) hg hs hd
theorem own_stR (X : Stand p l e R s m args below meth c T locs cells slots) (hx : p.tables.exec = Jvm.exec) (hZ : Z.Warmed39 s.vm) (eT : T.heap = h) {a : Addr} {k : ClassId} {ty : FieldType} {n : Int32} {vs : List Value} {d : Value} (V : Arv Z h a k ty n vs d) (hty : ty.isReference = true) {v : Value} (F : ∀ cl : Cell, Arr Z h a cl ty → cl.cls = k → Sto Z h a v) (hf : fits ty v = true) {j : Int32} (hj : ¬ j < 0 ∧ j < n) (hl : j.toNatClampNeg < vs.length)
    {g : JFrame} (hg : g.method = m) {rest : List Value} (hs : g.stack = v :: .int j :: .ref a :: rest) (hd : decode c.code g.pc = .ok (.aastore, 1)) :
    ∃ T' h', Stand p l e R s m args below meth c T' (locs ++ [⟨a, j.toNatClampNeg⟩]) cells slots ∧ T'.heap = h' ∧ Wr h h' a j.toNatClampNeg v ∧ Arv Z h' a k ty n (vs.set j.toNatClampNeg v) d ∧ ∀ t, Steps p.tables e below (T'.setTop { g with pc := g.pc + 1, stack := rest }) t → Steps p.tables e below (T.setTop g) t := by
  obtain ⟨cl, A, q1, S, N, H, G⟩ := V
  obtain ⟨T', h', X', e', W, st⟩ := stR X hx hZ eT A (j := j) (inb_of S hj) hty (F cl A q1) hg hs hd
  exact ⟨T', h', X', e', W, Arv.set A q1 S N H G hf W _ rfl hl, st⟩
/-! booleans -/
def own_b (P : Prop) [Decidable P] : Int32 := if P then 1 else 0
theorem own_bt {P : Prop} [Decidable P] (q : P) : own_b P = 1 := if_pos q
theorem own_bf {P : Prop} [Decidable P] (q : ¬ P) : own_b P = 0 := if_neg q
theorem own_bnar {P : Prop} [Decidable P] : nar .boolean (own_b P) = own_b P := by
  by_cases q : P
  · rw [own_bt q]; decide
  · rw [own_bf q]; decide
theorem own_bnw {P : Prop} [Decidable P] : narrow .boolean (.int (own_b P)) = .int (own_b P) := congrArg Value.int (own_bnar (P := P))
theorem own_by {P : Prop} [Decidable P] (q : P) : ifCond.holds .ne (own_b P) = true ∧ ifCond.holds .eq (own_b P) = false := by rw [own_bt q]; decide
theorem own_bn {P : Prop} [Decidable P] (q : ¬ P) : ifCond.holds .eq (own_b P) = true ∧ ifCond.holds .ne (own_b P) = false := by rw [own_bf q]; decide
theorem own_beq {P P' : Prop} [Decidable P] [Decidable P'] (q : P ↔ P') : own_b P = own_b P' := by
  by_cases r : P
  · rw [own_bt r, own_bt (q.mp r)]
  · rw [own_bf r, own_bf fun x => r (q.mpr x)]
end OwnKit

abbrev own_X (x : UInt64) (A : Int) : Prop := ∃ s c q, FP.Core.val64 x = .fin s c q ∧ -1074 ≤ q ∧ FP.Core.zval FP.Core.b64 (FP.Core.val64 x) = A * ((2 ^ 1034 : Nat) : Int)
theorem own_nan {x : UInt64} {A : Int} (h : own_X x A) : Jvm.Free.Fl.NoNaN64 x := by
  obtain ⟨s, c, q, e, -⟩ := h
  rw [Jvm.Free.Fl.val64_no, e]
  exact FP.Core.Datum.noConfusion
theorem own_x (A : Int64) (h : -9007199254740992 < A.toInt ∧ A.toInt < 9007199254740992) : own_X (FP.dmul (FP.l2d A) (4427038433705197568 : UInt64)) A.toInt := own_top _ _ (by omega) (own_mul A (by omega))
theorem own_bu (y : Int64) : -281474976710656 ≤ (y >>> ((15 : Int32) &&& 0x3f).toInt64).toInt ∧ (y >>> ((15 : Int32) &&& 0x3f).toInt64).toInt < 281474976710656 := by
  have s := c_lshr y 15 15 (by decide)
  have r := rng64 y
  omega
theorem own_du (y : Int64) : -281474976710656 ≤ ((y &&& (4095 : Int64)) - (2048 : Int64)).toInt ∧ ((y &&& (4095 : Int64)) - (2048 : Int64)).toInt < 281474976710656 := by
  have m := c_maskL y 4095 12 (by decide) (by decide)
  have s := c_lsub (y &&& (4095 : Int64)) 2048
  have l : (2048 : Int64).toInt = 2048 := by decide
  have r := rng64 ((y &&& (4095 : Int64)) - (2048 : Int64))
  omega
theorem own_sum3 (b d : Int64) (hb : -281474976710656 ≤ b.toInt ∧ b.toInt < 281474976710656) (hd : -281474976710656 ≤ d.toInt ∧ d.toInt < 281474976710656) : (b + d).toInt = b.toInt + d.toInt := by
  have s := c_ladd b d
  have r := rng64 (b + d)
  omega
theorem d1_0 : decode prog_13_method_2_code 0 = .ok (.dload_n 0, 1) := by decide +kernel
theorem d1_1 : decode prog_13_method_2_code 1 = .ok (.dload_n 2, 1) := by decide +kernel
theorem d1_2 : decode prog_13_method_2_code 2 = .ok (.ldc2_w 9, 3) := by decide +kernel
theorem d1_5 : decode prog_13_method_2_code 5 = .ok (.dadd, 1) := by decide +kernel
theorem d1_6 : decode prog_13_method_2_code 6 = .ok (.dcmp .g, 1) := by decide +kernel
theorem d1_7 : decode prog_13_method_2_code 7 = .ok (.ifCond .ge 7, 3) := by decide +kernel
theorem d1_10 : decode prog_13_method_2_code 10 = .ok (.iconst 1, 1) := by decide +kernel
theorem d1_11 : decode prog_13_method_2_code 11 = .ok (.goto 4, 3) := by decide +kernel
theorem d1_14 : decode prog_13_method_2_code 14 = .ok (.iconst 0, 1) := by decide +kernel
theorem d1_15 : decode prog_13_method_2_code 15 = .ok (.ireturn, 1) := by decide +kernel
theorem pf1 : plainFor (⟨"com/example/chronotope/chronotope/Lengths", "atMost", "(DD)Z"⟩ : MethodName) = true := by first | (exact plainFor_of_name (by first | (simp [plainName, overriddenIn]; done) | decide +kernel)) | decide +kernel
theorem pf0 : plainFor x = true := plainFor_of_name (by first | (simp [x, plainName, overriddenIn]; done) | decide +kernel)
theorem pd0 : parseMethodDescriptor "(DD)Z" = some ⟨[.double, .double], some .boolean⟩ := by decide +kernel
theorem ef_rm1 (m : MethodId) (z0 : UInt64) (z1 : UInt64) : entryFrame m #[(.double z0), (.double z1)] 4 = mkF m 0 #[.val (.double z0), .second, .val (.double z1), .second] [] := by first | (simp [entryFrame, mkF, argsToLocals, Value.category]; done) | rfl
set_option maxRecDepth 65536 in
set_option maxHeartbeats 40000000 in
theorem rm1 (l : Launch) (Z : State) (a0 : Array Value) (hw : ∀ d ∈ tables_1, d.before a0 Z = true) (ws : List Jvm.Cond) (xa xb : UInt64) (A B : Int) (h0 : Heap) (n0 : Nat) (Z0 : n0 ≤ h0.size) (ha : own_X xa A) (hbb : own_X xb B) (hB : -281474976710656 ≤ B ∧ B < 281474976710656) :
    own_Met l Z (⟨"com/example/chronotope/chronotope/Lengths", "atMost", "(DD)Z"⟩ : MethodName) prog_13_method_2_code 4 (some .boolean) ({ frames := 0, cells := 0, slots := 0, locals := 0 } : Room) ws #[(.double xa), (.double xb)] h0 (fun v h L => v = some (.int (own_b (A ≤ B + 1099))) ∧ Fr n0 L ∧ h = h0) 0 0 := by
  refine own_enter pf1 (fun m => ef_rm1 m xa xb) ?_
  intro p e s m below meth c T0 hx hby hml hown hnm hret hlk hZ X0 e0
  have N0 := Fr.nil n0
  show own_Go p e s below _ _ _ T0 (mkF m 0 #[.val (.double xa), .second, .val (.double xb), .second] [])
  obtain ⟨ny, l1, l2⟩ := own_add xb B (by omega) hbb
  refine own_st (fun _ k => XS.dloadN X0.here hx rfl (hb hby d1_0) rfl k) ?_
  show own_Go p e s below _ _ _ T0 (mkF m 1 #[.val (.double xa), .second, .val (.double xb), .second] [(.double xa)])
  refine own_st (fun _ k => XS.dloadN X0.here hx rfl (hb hby d1_1) rfl k) ?_
  show own_Go p e s below _ _ _ T0 (mkF m 2 #[.val (.double xa), .second, .val (.double xb), .second] [(.double xb), (.double xa)])
  refine own_st (X0.ldc2DoubleC hx hown (mvT hZ (hw _ (List.mem_of_getElem? (i := 8) rfl))) (g := (mkF m 2 #[.val (.double xa), .second, .val (.double xb), .second] [(.double xb), (.double xa)])) rfl (hb hby d1_2)) ?_
  show own_Go p e s below _ _ _ T0 (mkF m 5 #[.val (.double xa), .second, .val (.double xb), .second] [(.double (4472406533629990549 : UInt64)), (.double xb), (.double xa)])
  refine own_st (fun _ k => XS.daddS X0.here hx rfl (hb hby d1_5) rfl (Jvm.Free.Fl.val64_no.mpr ny) (v := FP.dadd xb (4472406533629990549 : UInt64)) rfl k) ?_
  show own_Go p e s below _ _ _ T0 (mkF m 6 #[.val (.double xa), .second, .val (.double xb), .second] [(.double (FP.dadd xb (4472406533629990549 : UInt64))), (.double xa)])
  have hcmp := own_cmp xa _ A B ha ny l1 l2
  by_cases c1 : A ≤ B + 1099
  · have c2 := c1
    refine own_st (fun _ k => XS.dcmpS X0.here hx rfl (hb hby d1_6) rfl (v := (-1 : Int32)) (by rw [hcmp, if_pos c1]; rfl) k) ?_
    show own_Go p e s below _ _ _ T0 (mkF m 7 #[.val (.double xa), .second, .val (.double xb), .second] [(.int (-1 : Int32))])
    refine own_st (fun _ k => XS.ifNo X0.here hx rfl (hb hby d1_7) rfl (by decide) k) ?_
    show own_Go p e s below _ _ _ T0 (mkF m 10 #[.val (.double xa), .second, .val (.double xb), .second] [])
    refine own_st (fun _ k => XS.iconst X0.here hx rfl (hb hby d1_10) k) ?_
    show own_Go p e s below _ _ _ T0 (mkF m 11 #[.val (.double xa), .second, .val (.double xb), .second] [(.int (1 : Int32))])
    refine own_st (fun _ k => XS.goto X0.here hx rfl (pc0 := 11) (pc' := 15) rfl (hb hby d1_11) (by decide) (by decide) k) ?_
    show own_Go p e s below _ _ _ T0 (mkF m 15 #[.val (.double xa), .second, .val (.double xb), .second] [(.int (1 : Int32))])
    exact own_retN X0 hx hlk (t := .boolean) hret (by simp) (hb hby d1_15) (z' := (1 : Int32)) rfl (by decide) (by decide) ⟨by rw [own_bt c1], N0, e0⟩
  · have c2 := c1
    refine own_st (fun _ k => XS.dcmpS X0.here hx rfl (hb hby d1_6) rfl (v := (1 : Int32)) (by rw [hcmp, if_neg c1]; rfl) k) ?_
    show own_Go p e s below _ _ _ T0 (mkF m 7 #[.val (.double xa), .second, .val (.double xb), .second] [(.int (1 : Int32))])
    refine own_st (fun _ k => XS.ifYes X0.here hx rfl (pc0 := 7) (pc' := 14) rfl (hb hby d1_7) rfl (by decide) (by decide) (by decide) k) ?_
    show own_Go p e s below _ _ _ T0 (mkF m 14 #[.val (.double xa), .second, .val (.double xb), .second] [])
    refine own_st (fun _ k => XS.iconst X0.here hx rfl (hb hby d1_14) k) ?_
    show own_Go p e s below _ _ _ T0 (mkF m 15 #[.val (.double xa), .second, .val (.double xb), .second] [(.int (0 : Int32))])
    exact own_retN X0 hx hlk (t := .boolean) hret (by simp) (hb hby d1_15) (z' := (0 : Int32)) rfl (by decide) (by decide) ⟨by rw [own_bf c1], N0, e0⟩
theorem ef_rm0 (m : MethodId) (z0 : Int64) (z1 : Int64) (z2 : Int32) : entryFrame m #[(.long z0), (.long z1), (.int z2)] maxLocals = mkF m 0 #[.val (.long z0), .second, .val (.long z1), .second, .val (.int z2), .unset, .unset, .unset, .unset, .unset, .unset, .unset, .unset, .unset, .unset, .unset] [] := by first | (simp [entryFrame, mkF, argsToLocals, Value.category, maxLocals]; done) | rfl
set_option maxRecDepth 65536 in
set_option maxHeartbeats 40000000 in
theorem rm0 (l : Launch) (Z : State) (a0 : Array Value) (hw : ∀ d ∈ tables_1, d.before a0 Z = true) (ws : List Jvm.Cond) (q0 q2 : Int64) (p4 : Int32) (h0 : Heap) (n0 : Nat) (Z0 : n0 ≤ h0.size)  :
    own_Met l Z x code maxLocals ret room_1 ws #[(.long q0), (.long q2), (.int p4)] h0 (fun v h L => v = some (.int 1) ∧ Fr n0 L) 0 0 := by
  refine own_enter pf0 (fun m => ef_rm0 m q0 q2 p4) ?_
  intro p e s m below meth c T0 hx hby hml hown hnm hret hlk hZ X0 e0
  have N0 := Fr.nil n0
  show own_Go p e s below _ _ _ T0 (mkF m 0 #[.val (.long q0), .second, .val (.long q2), .second, .val (.int p4), .unset, .unset, .unset, .unset, .unset, .unset, .unset, .unset, .unset, .unset, .unset] [])
  refine own_st (fun _ k => XS.lloadN X0.here hx rfl (hb hby at_0) rfl k) ?_
  show own_Go p e s below _ _ _ T0 (mkF m 1 #[.val (.long q0), .second, .val (.long q2), .second, .val (.int p4), .unset, .unset, .unset, .unset, .unset, .unset, .unset, .unset, .unset, .unset, .unset] [(.long q0)])
  refine own_st (fun _ k => XS.bipush X0.here hx rfl (hb hby at_1) k) ?_
  show own_Go p e s below _ _ _ T0 (mkF m 3 #[.val (.long q0), .second, .val (.long q2), .second, .val (.int p4), .unset, .unset, .unset, .unset, .unset, .unset, .unset, .unset, .unset, .unset, .unset] [(.int (15 : Int32)), (.long q0)])
  refine own_st (fun _ k => XS.lshr X0.here hx rfl (hb hby at_3) rfl k) ?_
  show own_Go p e s below _ _ _ T0 (mkF m 4 #[.val (.long q0), .second, .val (.long q2), .second, .val (.int p4), .unset, .unset, .unset, .unset, .unset, .unset, .unset, .unset, .unset, .unset, .unset] [(.long (q0 >>> ((15 : Int32) &&& 0x3f).toInt64))])
  have hbb := own_bu q0
  generalize (q0 >>> ((15 : Int32) &&& 0x3f).toInt64) = bu at hbb ⊢
  show own_Go p e s below _ _ _ T0 (mkF m 4 #[.val (.long q0), .second, .val (.long q2), .second, .val (.int p4), .unset, .unset, .unset, .unset, .unset, .unset, .unset, .unset, .unset, .unset, .unset] [(.long bu)])
  refine own_st (fun _ k => XS.lstore X0.here hx rfl (hb hby at_4) rfl (l' := #[.val (.long q0), .second, .val (.long q2), .second, .val (.int p4), .val (.long bu), .second, .unset, .unset, .unset, .unset, .unset, .unset, .unset, .unset, .unset]) rfl k) ?_
  show own_Go p e s below _ _ _ T0 (mkF m 6 #[.val (.long q0), .second, .val (.long q2), .second, .val (.int p4), .val (.long bu), .second, .unset, .unset, .unset, .unset, .unset, .unset, .unset, .unset, .unset] [])
  refine own_st (fun _ k => XS.iload X0.here hx rfl (hb hby at_6) rfl k) ?_
  show own_Go p e s below _ _ _ T0 (mkF m 8 #[.val (.long q0), .second, .val (.long q2), .second, .val (.int p4), .val (.long bu), .second, .unset, .unset, .unset, .unset, .unset, .unset, .unset, .unset, .unset] [(.int p4)])
  refine own_st (fun _ k => XS.iconst X0.here hx rfl (hb hby at_8) k) ?_
  show own_Go p e s below _ _ _ T0 (mkF m 9 #[.val (.long q0), .second, .val (.long q2), .second, .val (.int p4), .val (.long bu), .second, .unset, .unset, .unset, .unset, .unset, .unset, .unset, .unset, .unset] [(.int (1 : Int32)), (.int p4)])
  refine own_st (fun _ k => XS.iand X0.here hx rfl (hb hby at_9) rfl k) ?_
  show own_Go p e s below _ _ _ T0 (mkF m 10 #[.val (.long q0), .second, .val (.long q2), .second, .val (.int p4), .val (.long bu), .second, .unset, .unset, .unset, .unset, .unset, .unset, .unset, .unset, .unset] [(.int (p4 &&& (1 : Int32)))])
  have J33 : ∀ (d : Int64) (hd : -281474976710656 ≤ d.toInt ∧ d.toInt < 281474976710656), own_Go p e s below (fun (v : Option Value) (h : Heap) (L : List Loc) => v = some (.int 1) ∧ Fr n0 L) 0 0 T0 (mkF m 33 #[.val (.long q0), .second, .val (.long q2), .second, .val (.int p4), .val (.long bu), .second, .val (.long d), .second, .unset, .unset, .unset, .unset, .unset, .unset, .unset] []) := by
    intro d hd
    show own_Go p e s below _ _ _ T0 (mkF m 33 #[.val (.long q0), .second, .val (.long q2), .second, .val (.int p4), .val (.long bu), .second, .val (.long d), .second, .unset, .unset, .unset, .unset, .unset, .unset, .unset] [])
    have hs := own_sum3 bu d hbb hd
    have ha' := own_x (bu + d) (by omega)
    have hb' := own_x bu (by omega)
    refine own_st (fun _ k => XS.lload X0.here hx rfl (hb hby at_33) rfl k) ?_
    show own_Go p e s below _ _ _ T0 (mkF m 35 #[.val (.long q0), .second, .val (.long q2), .second, .val (.int p4), .val (.long bu), .second, .val (.long d), .second, .unset, .unset, .unset, .unset, .unset, .unset, .unset] [(.long bu)])
    refine own_st (fun _ k => XS.lload X0.here hx rfl (hb hby at_35) rfl k) ?_
    show own_Go p e s below _ _ _ T0 (mkF m 37 #[.val (.long q0), .second, .val (.long q2), .second, .val (.int p4), .val (.long bu), .second, .val (.long d), .second, .unset, .unset, .unset, .unset, .unset, .unset, .unset] [(.long d), (.long bu)])
    refine own_st (fun _ k => XS.ladd X0.here hx rfl (hb hby at_37) rfl k) ?_
    show own_Go p e s below _ _ _ T0 (mkF m 38 #[.val (.long q0), .second, .val (.long q2), .second, .val (.int p4), .val (.long bu), .second, .val (.long d), .second, .unset, .unset, .unset, .unset, .unset, .unset, .unset] [(.long (bu + d))])
    refine own_st (fun _ k => XS.lstore X0.here hx rfl (hb hby at_38) rfl (l' := #[.val (.long q0), .second, .val (.long q2), .second, .val (.int p4), .val (.long bu), .second, .val (.long d), .second, .val (.long (bu + d)), .second, .unset, .unset, .unset, .unset, .unset]) rfl k) ?_
    show own_Go p e s below _ _ _ T0 (mkF m 40 #[.val (.long q0), .second, .val (.long q2), .second, .val (.int p4), .val (.long bu), .second, .val (.long d), .second, .val (.long (bu + d)), .second, .unset, .unset, .unset, .unset, .unset] [])
    refine own_st (fun _ k => XS.lload X0.here hx rfl (hb hby at_40) rfl k) ?_
    show own_Go p e s below _ _ _ T0 (mkF m 42 #[.val (.long q0), .second, .val (.long q2), .second, .val (.int p4), .val (.long bu), .second, .val (.long d), .second, .val (.long (bu + d)), .second, .unset, .unset, .unset, .unset, .unset] [(.long (bu + d))])
    refine own_st (fun _ k => XS.l2dS X0.here hx rfl (hb hby at_42) rfl (v := FP.l2d (bu + d)) rfl k) ?_
    show own_Go p e s below _ _ _ T0 (mkF m 43 #[.val (.long q0), .second, .val (.long q2), .second, .val (.int p4), .val (.long bu), .second, .val (.long d), .second, .val (.long (bu + d)), .second, .unset, .unset, .unset, .unset, .unset] [(.double (FP.l2d (bu + d)))])
    refine own_st (X0.ldc2DoubleC hx hown (mvT hZ (hw _ (List.mem_of_getElem? (i := 2) rfl))) (g := (mkF m 43 #[.val (.long q0), .second, .val (.long q2), .second, .val (.int p4), .val (.long bu), .second, .val (.long d), .second, .val (.long (bu + d)), .second, .unset, .unset, .unset, .unset, .unset] [(.double (FP.l2d (bu + d)))])) rfl (hb hby at_43)) ?_
    show own_Go p e s below _ _ _ T0 (mkF m 46 #[.val (.long q0), .second, .val (.long q2), .second, .val (.int p4), .val (.long bu), .second, .val (.long d), .second, .val (.long (bu + d)), .second, .unset, .unset, .unset, .unset, .unset] [(.double (4427038433705197568 : UInt64)), (.double (FP.l2d (bu + d)))])
    refine own_st (fun _ k => XS.dmulS X0.here hx rfl (hb hby at_46) rfl (own_nan ha') (v := FP.dmul (FP.l2d (bu + d)) (4427038433705197568 : UInt64)) rfl k) ?_
    show own_Go p e s below _ _ _ T0 (mkF m 47 #[.val (.long q0), .second, .val (.long q2), .second, .val (.int p4), .val (.long bu), .second, .val (.long d), .second, .val (.long (bu + d)), .second, .unset, .unset, .unset, .unset, .unset] [(.double (FP.dmul (FP.l2d (bu + d)) (4427038433705197568 : UInt64)))])
    generalize FP.dmul (FP.l2d (bu + d)) (4427038433705197568 : UInt64) = xa at ha' ⊢
    show own_Go p e s below _ _ _ T0 (mkF m 47 #[.val (.long q0), .second, .val (.long q2), .second, .val (.int p4), .val (.long bu), .second, .val (.long d), .second, .val (.long (bu + d)), .second, .unset, .unset, .unset, .unset, .unset] [(.double xa)])
    refine own_st (fun _ k => XS.dstore X0.here hx rfl (hb hby at_47) rfl (l' := #[.val (.long q0), .second, .val (.long q2), .second, .val (.int p4), .val (.long bu), .second, .val (.long d), .second, .val (.long (bu + d)), .second, .val (.double xa), .second, .unset, .unset, .unset]) rfl k) ?_
    show own_Go p e s below _ _ _ T0 (mkF m 49 #[.val (.long q0), .second, .val (.long q2), .second, .val (.int p4), .val (.long bu), .second, .val (.long d), .second, .val (.long (bu + d)), .second, .val (.double xa), .second, .unset, .unset, .unset] [])
    refine own_st (fun _ k => XS.lload X0.here hx rfl (hb hby at_49) rfl k) ?_
    show own_Go p e s below _ _ _ T0 (mkF m 51 #[.val (.long q0), .second, .val (.long q2), .second, .val (.int p4), .val (.long bu), .second, .val (.long d), .second, .val (.long (bu + d)), .second, .val (.double xa), .second, .unset, .unset, .unset] [(.long bu)])
    refine own_st (fun _ k => XS.l2dS X0.here hx rfl (hb hby at_51) rfl (v := FP.l2d bu) rfl k) ?_
    show own_Go p e s below _ _ _ T0 (mkF m 52 #[.val (.long q0), .second, .val (.long q2), .second, .val (.int p4), .val (.long bu), .second, .val (.long d), .second, .val (.long (bu + d)), .second, .val (.double xa), .second, .unset, .unset, .unset] [(.double (FP.l2d bu))])
    refine own_st (X0.ldc2DoubleC hx hown (mvT hZ (hw _ (List.mem_of_getElem? (i := 2) rfl))) (g := (mkF m 52 #[.val (.long q0), .second, .val (.long q2), .second, .val (.int p4), .val (.long bu), .second, .val (.long d), .second, .val (.long (bu + d)), .second, .val (.double xa), .second, .unset, .unset, .unset] [(.double (FP.l2d bu))])) rfl (hb hby at_52)) ?_
    show own_Go p e s below _ _ _ T0 (mkF m 55 #[.val (.long q0), .second, .val (.long q2), .second, .val (.int p4), .val (.long bu), .second, .val (.long d), .second, .val (.long (bu + d)), .second, .val (.double xa), .second, .unset, .unset, .unset] [(.double (4427038433705197568 : UInt64)), (.double (FP.l2d bu))])
    refine own_st (fun _ k => XS.dmulS X0.here hx rfl (hb hby at_55) rfl (own_nan hb') (v := FP.dmul (FP.l2d bu) (4427038433705197568 : UInt64)) rfl k) ?_
    show own_Go p e s below _ _ _ T0 (mkF m 56 #[.val (.long q0), .second, .val (.long q2), .second, .val (.int p4), .val (.long bu), .second, .val (.long d), .second, .val (.long (bu + d)), .second, .val (.double xa), .second, .unset, .unset, .unset] [(.double (FP.dmul (FP.l2d bu) (4427038433705197568 : UInt64)))])
    generalize FP.dmul (FP.l2d bu) (4427038433705197568 : UInt64) = xb at hb' ⊢
    show own_Go p e s below _ _ _ T0 (mkF m 56 #[.val (.long q0), .second, .val (.long q2), .second, .val (.int p4), .val (.long bu), .second, .val (.long d), .second, .val (.long (bu + d)), .second, .val (.double xa), .second, .unset, .unset, .unset] [(.double xb)])
    refine own_st (fun _ k => XS.dstore X0.here hx rfl (hb hby at_56) rfl (l' := #[.val (.long q0), .second, .val (.long q2), .second, .val (.int p4), .val (.long bu), .second, .val (.long d), .second, .val (.long (bu + d)), .second, .val (.double xa), .second, .val (.double xb), .second, .unset]) rfl k) ?_
    show own_Go p e s below _ _ _ T0 (mkF m 58 #[.val (.long q0), .second, .val (.long q2), .second, .val (.int p4), .val (.long bu), .second, .val (.long d), .second, .val (.long (bu + d)), .second, .val (.double xa), .second, .val (.double xb), .second, .unset] [])
    refine own_st (fun _ k => XS.lload X0.here hx rfl (hb hby at_58) rfl k) ?_
    show own_Go p e s below _ _ _ T0 (mkF m 60 #[.val (.long q0), .second, .val (.long q2), .second, .val (.int p4), .val (.long bu), .second, .val (.long d), .second, .val (.long (bu + d)), .second, .val (.double xa), .second, .val (.double xb), .second, .unset] [(.long d)])
    refine own_st (X0.ldc2Long hx hown (mvT hZ (hw _ (List.mem_of_getElem? (i := 3) rfl))) (g := (mkF m 60 #[.val (.long q0), .second, .val (.long q2), .second, .val (.int p4), .val (.long bu), .second, .val (.long d), .second, .val (.long (bu + d)), .second, .val (.double xa), .second, .val (.double xb), .second, .unset] [(.long d)])) rfl (hb hby at_60)) ?_
    show own_Go p e s below _ _ _ T0 (mkF m 63 #[.val (.long q0), .second, .val (.long q2), .second, .val (.int p4), .val (.long bu), .second, .val (.long d), .second, .val (.long (bu + d)), .second, .val (.double xa), .second, .val (.double xb), .second, .unset] [(.long (1099 : Int64)), (.long d)])
    refine own_st (fun _ k => XS.lcmp X0.here hx rfl (hb hby at_63) rfl k) ?_
    show own_Go p e s below _ _ _ T0 (mkF m 64 #[.val (.long q0), .second, .val (.long q2), .second, .val (.int p4), .val (.long bu), .second, .val (.long d), .second, .val (.long (bu + d)), .second, .val (.double xa), .second, .val (.double xb), .second, .unset] [(.int (lcmpW d (1099 : Int64)))])
    have J72 : ∀  (bz : Int32) (_ : bz = own_b ((bu + d).toInt ≤ bu.toInt + 1099)), own_Go p e s below (fun (v : Option Value) (h : Heap) (L : List Loc) => v = some (.int 1) ∧ Fr n0 L) 0 0 T0 (mkF m 72 #[.val (.long q0), .second, .val (.long q2), .second, .val (.int p4), .val (.long bu), .second, .val (.long d), .second, .val (.long (bu + d)), .second, .val (.double xa), .second, .val (.double xb), .second, .unset] [(.int bz)]) := by
      rintro _ rfl
      show own_Go p e s below _ _ _ T0 (mkF m 72 #[.val (.long q0), .second, .val (.long q2), .second, .val (.int p4), .val (.long bu), .second, .val (.long d), .second, .val (.long (bu + d)), .second, .val (.double xa), .second, .val (.double xb), .second, .unset] [(.int (own_b ((bu + d).toInt ≤ bu.toInt + 1099)))])
      refine own_st (fun _ k => XS.istore X0.here hx rfl (hb hby at_72) rfl (l' := #[.val (.long q0), .second, .val (.long q2), .second, .val (.int p4), .val (.long bu), .second, .val (.long d), .second, .val (.long (bu + d)), .second, .val (.double xa), .second, .val (.double xb), .second, .val (.int (own_b ((bu + d).toInt ≤ bu.toInt + 1099)))]) rfl k) ?_
      show own_Go p e s below _ _ _ T0 (mkF m 74 #[.val (.long q0), .second, .val (.long q2), .second, .val (.int p4), .val (.long bu), .second, .val (.long d), .second, .val (.long (bu + d)), .second, .val (.double xa), .second, .val (.double xb), .second, .val (.int (own_b ((bu + d).toInt ≤ bu.toInt + 1099)))] [])
      refine own_st (fun _ k => XS.dload X0.here hx rfl (hb hby at_74) rfl k) ?_
      show own_Go p e s below _ _ _ T0 (mkF m 76 #[.val (.long q0), .second, .val (.long q2), .second, .val (.int p4), .val (.long bu), .second, .val (.long d), .second, .val (.long (bu + d)), .second, .val (.double xa), .second, .val (.double xb), .second, .val (.int (own_b ((bu + d).toInt ≤ bu.toInt + 1099)))] [(.double xa)])
      refine own_st (fun _ k => XS.dload X0.here hx rfl (hb hby at_76) rfl k) ?_
      show own_Go p e s below _ _ _ T0 (mkF m 78 #[.val (.long q0), .second, .val (.long q2), .second, .val (.int p4), .val (.long bu), .second, .val (.long d), .second, .val (.long (bu + d)), .second, .val (.double xa), .second, .val (.double xb), .second, .val (.int (own_b ((bu + d).toInt ≤ bu.toInt + 1099)))] [(.double xb), (.double xa)])
      refine own_callS X0 hx hZ (y := (⟨"com/example/chronotope/chronotope/Lengths", "atMost", "(DD)Z"⟩ : MethodName)) hown (hw _ (List.mem_of_getElem? (i := 4) rfl)) (hw _ (List.mem_of_getElem? (i := 5) rfl)) (hw _ (List.mem_of_getElem? (i := 6) rfl)) (hw _ (List.mem_of_getElem? (i := 7) rfl)) (by decide) e0 (rm1 l Z a0 hw [] xa xb (bu + d).toInt bu.toInt h0 n0 Z0 ha' hb' hbb) 0 (by decide) (by decide) (g := (mkF m 78 #[.val (.long q0), .second, .val (.long q2), .second, .val (.int p4), .val (.long bu), .second, .val (.long d), .second, .val (.long (bu + d)), .second, .val (.double xa), .second, .val (.double xb), .second, .val (.int (own_b ((bu + d).toInt ≤ bu.toInt + 1099)))] [(.double xb), (.double xa)])) rfl (by rw [hml]; rfl) (argsL := [(.double xa), (.double xb)]) (rest := []) pd0 rfl rfl rfl (by show 2 * 0 + _ ≤ _; exact Nat.le_of_eq rfl) (hb hby at_78) (by decide) (by decide) ?_
      intro T1 v1 L1 X1 hQ1
      obtain ⟨rfl, N1q, e1⟩ := hQ1
      have N1 := Fr.app N0 N1q
      show own_Go p e s below _ _ _ T1 (mkF m 81 #[.val (.long q0), .second, .val (.long q2), .second, .val (.int p4), .val (.long bu), .second, .val (.long d), .second, .val (.long (bu + d)), .second, .val (.double xa), .second, .val (.double xb), .second, .val (.int (own_b ((bu + d).toInt ≤ bu.toInt + 1099)))] [(.int (own_b ((bu + d).toInt ≤ bu.toInt + 1099)))])
      refine own_st (fun _ k => XS.iload X1.here hx rfl (hb hby at_81) rfl k) ?_
      show own_Go p e s below _ _ _ T1 (mkF m 83 #[.val (.long q0), .second, .val (.long q2), .second, .val (.int p4), .val (.long bu), .second, .val (.long d), .second, .val (.long (bu + d)), .second, .val (.double xa), .second, .val (.double xb), .second, .val (.int (own_b ((bu + d).toInt ≤ bu.toInt + 1099)))] [(.int (own_b ((bu + d).toInt ≤ bu.toInt + 1099))), (.int (own_b ((bu + d).toInt ≤ bu.toInt + 1099)))])
      refine own_st (fun _ k => XS.icmpNo X1.here hx rfl (hb hby at_83) rfl (teq (rfl : (own_b ((bu + d).toInt ≤ bu.toInt + 1099)) = (own_b ((bu + d).toInt ≤ bu.toInt + 1099)))).2 k) ?_
      show own_Go p e s below _ _ _ T1 (mkF m 86 #[.val (.long q0), .second, .val (.long q2), .second, .val (.int p4), .val (.long bu), .second, .val (.long d), .second, .val (.long (bu + d)), .second, .val (.double xa), .second, .val (.double xb), .second, .val (.int (own_b ((bu + d).toInt ≤ bu.toInt + 1099)))] [])
      refine own_st (fun _ k => XS.iconst X1.here hx rfl (hb hby at_86) k) ?_
      show own_Go p e s below _ _ _ T1 (mkF m 87 #[.val (.long q0), .second, .val (.long q2), .second, .val (.int p4), .val (.long bu), .second, .val (.long d), .second, .val (.long (bu + d)), .second, .val (.double xa), .second, .val (.double xb), .second, .val (.int (own_b ((bu + d).toInt ≤ bu.toInt + 1099)))] [(.int (1 : Int32))])
      refine own_st (fun _ k => XS.goto X1.here hx rfl (pc0 := 87) (pc' := 91) rfl (hb hby at_87) (by decide) (by decide) k) ?_
      show own_Go p e s below _ _ _ T1 (mkF m 91 #[.val (.long q0), .second, .val (.long q2), .second, .val (.int p4), .val (.long bu), .second, .val (.long d), .second, .val (.long (bu + d)), .second, .val (.double xa), .second, .val (.double xb), .second, .val (.int (own_b ((bu + d).toInt ≤ bu.toInt + 1099)))] [(.int (1 : Int32))])
      exact own_retN X1 hx hlk (t := .boolean) hret (by simp) (hb hby at_91) (z' := (1 : Int32)) rfl (by decide) (by decide) ⟨rfl, N1⟩
    by_cases c64_2 : (1099 : Int64) < d
    · refine own_st (fun _ k => XS.ifYes X0.here hx rfl (pc0 := 64) (pc' := 71) rfl (hb hby at_64) rfl ((if0 _ _).trans (tlt ((lw_gt _ _).mpr c64_2)).2.2.1) (by decide) (by decide) k) ?_
      show own_Go p e s below _ _ _ T0 (mkF m 71 #[.val (.long q0), .second, .val (.long q2), .second, .val (.int p4), .val (.long bu), .second, .val (.long d), .second, .val (.long (bu + d)), .second, .val (.double xa), .second, .val (.double xb), .second, .unset] [])
      refine own_st (fun _ k => XS.iconst X0.here hx rfl (hb hby at_71) k) ?_
      show own_Go p e s below _ _ _ T0 (mkF m 72 #[.val (.long q0), .second, .val (.long q2), .second, .val (.int p4), .val (.long bu), .second, .val (.long d), .second, .val (.long (bu + d)), .second, .val (.double xa), .second, .val (.double xb), .second, .unset] [(.int (0 : Int32))])
      exact J72  _ (by rw [own_bf (P := ((bu + d).toInt ≤ bu.toInt + 1099)) (by have q := c64_2; rw [Int64.lt_iff_toInt_lt, show (1099 : Int64).toInt = 1099 by decide] at q; omega)])
    · refine own_st (fun _ k => XS.ifNo X0.here hx rfl (hb hby at_64) rfl ((if0 _ _).trans (flt (fun q => c64_2 ((lw_gt _ _).mp q))).2.2.1) k) ?_
      show own_Go p e s below _ _ _ T0 (mkF m 67 #[.val (.long q0), .second, .val (.long q2), .second, .val (.int p4), .val (.long bu), .second, .val (.long d), .second, .val (.long (bu + d)), .second, .val (.double xa), .second, .val (.double xb), .second, .unset] [])
      refine own_st (fun _ k => XS.iconst X0.here hx rfl (hb hby at_67) k) ?_
      show own_Go p e s below _ _ _ T0 (mkF m 68 #[.val (.long q0), .second, .val (.long q2), .second, .val (.int p4), .val (.long bu), .second, .val (.long d), .second, .val (.long (bu + d)), .second, .val (.double xa), .second, .val (.double xb), .second, .unset] [(.int (1 : Int32))])
      refine own_st (fun _ k => XS.goto X0.here hx rfl (pc0 := 68) (pc' := 72) rfl (hb hby at_68) (by decide) (by decide) k) ?_
      show own_Go p e s below _ _ _ T0 (mkF m 72 #[.val (.long q0), .second, .val (.long q2), .second, .val (.int p4), .val (.long bu), .second, .val (.long d), .second, .val (.long (bu + d)), .second, .val (.double xa), .second, .val (.double xb), .second, .unset] [(.int (1 : Int32))])
      exact J72  _ (by rw [own_bt (P := ((bu + d).toInt ≤ bu.toInt + 1099)) (by have q := c64_2; rw [Int64.lt_iff_toInt_lt, show (1099 : Int64).toInt = 1099 by decide] at q; omega)])
  by_cases c10_3 : (p4 &&& (1 : Int32)) = (0 : Int32)
  · refine own_st (fun _ k => XS.ifYes X0.here hx rfl (pc0 := 10) (pc' := 22) rfl (hb hby at_10) rfl ((if0 _ _).trans (teq c10_3).1) (by decide) (by decide) k) ?_
    show own_Go p e s below _ _ _ T0 (mkF m 22 #[.val (.long q0), .second, .val (.long q2), .second, .val (.int p4), .val (.long bu), .second, .unset, .unset, .unset, .unset, .unset, .unset, .unset, .unset, .unset] [])
    refine own_st (fun _ k => XS.lloadN X0.here hx rfl (hb hby at_22) rfl k) ?_
    show own_Go p e s below _ _ _ T0 (mkF m 23 #[.val (.long q0), .second, .val (.long q2), .second, .val (.int p4), .val (.long bu), .second, .unset, .unset, .unset, .unset, .unset, .unset, .unset, .unset, .unset] [(.long q2)])
    refine own_st (X0.ldc2Long hx hown (mvT hZ (hw _ (List.mem_of_getElem? (i := 0) rfl))) (g := (mkF m 23 #[.val (.long q0), .second, .val (.long q2), .second, .val (.int p4), .val (.long bu), .second, .unset, .unset, .unset, .unset, .unset, .unset, .unset, .unset, .unset] [(.long q2)])) rfl (hb hby at_23)) ?_
    show own_Go p e s below _ _ _ T0 (mkF m 26 #[.val (.long q0), .second, .val (.long q2), .second, .val (.int p4), .val (.long bu), .second, .unset, .unset, .unset, .unset, .unset, .unset, .unset, .unset, .unset] [(.long (4095 : Int64)), (.long q2)])
    refine own_st (fun _ k => XS.land X0.here hx rfl (hb hby at_26) rfl k) ?_
    show own_Go p e s below _ _ _ T0 (mkF m 27 #[.val (.long q0), .second, .val (.long q2), .second, .val (.int p4), .val (.long bu), .second, .unset, .unset, .unset, .unset, .unset, .unset, .unset, .unset, .unset] [(.long (q2 &&& (4095 : Int64)))])
    refine own_st (X0.ldc2Long hx hown (mvT hZ (hw _ (List.mem_of_getElem? (i := 1) rfl))) (g := (mkF m 27 #[.val (.long q0), .second, .val (.long q2), .second, .val (.int p4), .val (.long bu), .second, .unset, .unset, .unset, .unset, .unset, .unset, .unset, .unset, .unset] [(.long (q2 &&& (4095 : Int64)))])) rfl (hb hby at_27)) ?_
    show own_Go p e s below _ _ _ T0 (mkF m 30 #[.val (.long q0), .second, .val (.long q2), .second, .val (.int p4), .val (.long bu), .second, .unset, .unset, .unset, .unset, .unset, .unset, .unset, .unset, .unset] [(.long (2048 : Int64)), (.long (q2 &&& (4095 : Int64)))])
    refine own_st (fun _ k => XS.lsub X0.here hx rfl (hb hby at_30) rfl k) ?_
    show own_Go p e s below _ _ _ T0 (mkF m 31 #[.val (.long q0), .second, .val (.long q2), .second, .val (.int p4), .val (.long bu), .second, .unset, .unset, .unset, .unset, .unset, .unset, .unset, .unset, .unset] [(.long ((q2 &&& (4095 : Int64)) - (2048 : Int64)))])
    refine own_st (fun _ k => XS.lstore X0.here hx rfl (hb hby at_31) rfl (l' := #[.val (.long q0), .second, .val (.long q2), .second, .val (.int p4), .val (.long bu), .second, .val (.long ((q2 &&& (4095 : Int64)) - (2048 : Int64))), .second, .unset, .unset, .unset, .unset, .unset, .unset, .unset]) rfl k) ?_
    show own_Go p e s below _ _ _ T0 (mkF m 33 #[.val (.long q0), .second, .val (.long q2), .second, .val (.int p4), .val (.long bu), .second, .val (.long ((q2 &&& (4095 : Int64)) - (2048 : Int64))), .second, .unset, .unset, .unset, .unset, .unset, .unset, .unset] [])
    exact J33 _ (own_du _)
  · refine own_st (fun _ k => XS.ifNo X0.here hx rfl (hb hby at_10) rfl ((if0 _ _).trans (feq c10_3).1) k) ?_
    show own_Go p e s below _ _ _ T0 (mkF m 13 #[.val (.long q0), .second, .val (.long q2), .second, .val (.int p4), .val (.long bu), .second, .unset, .unset, .unset, .unset, .unset, .unset, .unset, .unset, .unset] [])
    refine own_st (fun _ k => XS.lloadN X0.here hx rfl (hb hby at_13) rfl k) ?_
    show own_Go p e s below _ _ _ T0 (mkF m 14 #[.val (.long q0), .second, .val (.long q2), .second, .val (.int p4), .val (.long bu), .second, .unset, .unset, .unset, .unset, .unset, .unset, .unset, .unset, .unset] [(.long q2)])
    refine own_st (fun _ k => XS.bipush X0.here hx rfl (hb hby at_14) k) ?_
    show own_Go p e s below _ _ _ T0 (mkF m 16 #[.val (.long q0), .second, .val (.long q2), .second, .val (.int p4), .val (.long bu), .second, .unset, .unset, .unset, .unset, .unset, .unset, .unset, .unset, .unset] [(.int (15 : Int32)), (.long q2)])
    refine own_st (fun _ k => XS.lshr X0.here hx rfl (hb hby at_16) rfl k) ?_
    show own_Go p e s below _ _ _ T0 (mkF m 17 #[.val (.long q0), .second, .val (.long q2), .second, .val (.int p4), .val (.long bu), .second, .unset, .unset, .unset, .unset, .unset, .unset, .unset, .unset, .unset] [(.long (q2 >>> ((15 : Int32) &&& 0x3f).toInt64))])
    refine own_st (fun _ k => XS.lstore X0.here hx rfl (hb hby at_17) rfl (l' := #[.val (.long q0), .second, .val (.long q2), .second, .val (.int p4), .val (.long bu), .second, .val (.long (q2 >>> ((15 : Int32) &&& 0x3f).toInt64)), .second, .unset, .unset, .unset, .unset, .unset, .unset, .unset]) rfl k) ?_
    show own_Go p e s below _ _ _ T0 (mkF m 19 #[.val (.long q0), .second, .val (.long q2), .second, .val (.int p4), .val (.long bu), .second, .val (.long (q2 >>> ((15 : Int32) &&& 0x3f).toInt64)), .second, .unset, .unset, .unset, .unset, .unset, .unset, .unset] [])
    refine own_st (fun _ k => XS.goto X0.here hx rfl (pc0 := 19) (pc' := 33) rfl (hb hby at_19) (by decide) (by decide) k) ?_
    show own_Go p e s below _ _ _ T0 (mkF m 33 #[.val (.long q0), .second, .val (.long q2), .second, .val (.int p4), .val (.long bu), .second, .val (.long (q2 >>> ((15 : Int32) &&& 0x3f).toInt64)), .second, .unset, .unset, .unset, .unset, .unset, .unset, .unset] [])
    exact J33 _ (own_bu _)
set_option maxRecDepth 65536 in
set_option maxHeartbeats 40000000 in
theorem comes_1 {Post : Tables → Env → Array Value → State → Outcome → State → Prop} (hpost : ∀ tb e args s v u, (limb_1_1.after args s (.returned v) u = true ∧ limb_1_2.after args s (.returned v) u = true ∧ True) → FrameEnd s (.returned v) u (Jvm.fieldLocs frame_1_writes args s ++ Jvm.arrayLocs frame_1_arrays args s ++ Jvm.staticLocs frame_1_statics s) 0 0 → Post tb e args s (.returned v) u) :
    ArmFor flags0 classFile x code maxLocals ret World_1 tables_1 room_1 Calls_1 rest_1 Pre_1 Post := by
  intro l hfl _ _ p e ha hc hk s m args below hf hA hF happ hP
  obtain ⟨hcalls, hrest, hpre⟩ := hP
  obtain ⟨-, -, -, hnamed, -, -, -, hat⟩ := (Spec.applies_iff hf).mp happ
  obtain ⟨hg, hn⟩ := and_e (Cond.before_iff.mp (show (Jvm.Cond.and given_1 narrow_1).before args s = true from hpre))
  obtain ⟨h1, hr0⟩ := and_e hg
  obtain ⟨w0, w1, w2, rfl⟩ : ∃ w0 w1 w2 : Value, args = #[w0, w1, w2] := by
    have hs : args.size = 3 := by simpa [Cond.value, given_1] using h1
    obtain ⟨L⟩ := args
    match L, hs with
    | [w0, w1, w2], _ => exact ⟨w0, w1, w2, rfl⟩
  have hw := fun d (hd : d ∈ tables_1) => atoms_spec (ws := Jvm.Cond.code x code maxLocals ret :: tables_1) hat d (List.mem_cons_of_mem _ hd)
  obtain ⟨ha0, hr1⟩ := and_e hr0
  obtain ⟨i0, e0⟩ := isL_v ha0
  obtain rfl : w0 = (.long i0) := Option.some.inj e0
  obtain ⟨ha1, hr2⟩ := and_e hr1
  obtain ⟨i1, e1⟩ := isL_v ha1
  obtain rfl : w1 = (.long i1) := Option.some.inj e1
  obtain ⟨i2, e2⟩ := is_v hr2
  obtain rfl : w2 = (.int i2) := Option.some.inj e2
  obtain ⟨n, o, h1, h2, h3, _, L, rfl, ⟨rfl, N⟩, hq⟩ := rm0 l s _ hw tables_1 i0 i1 i2 s.heap s.heap.size (Nat.le_refl _) p e ha hc hk s m _ below hf ((Spec.applies_iff_loose hf).mp happ).1 ⟨rfl, State.Warmed39.refl s, rfl⟩ trivial
  refine ⟨n, _, h1, h2, h3, hpost _ _ _ _ _ _ ⟨Cond.after_iff.mpr rfl, Cond.after_iff.mpr (eq_i res_at (Term.int_eval (1)) rfl), trivial⟩ ⟨hq.1, hq.2.1, (hq.2.2.sift fun y hy => Or.inr (N y hy)).mono (by decide) (by decide)⟩⟩
theorem main_1_1 : Claimed_1_1 := comes_1 fun _ _ _ _ _ _ h hF => ⟨h.1, hF⟩
theorem main_1_2 : Claimed_1_2 := comes_1 fun _ _ _ _ _ _ h hF => ⟨h.2.1, hF⟩
end Jvm.Pilot.@@N@@
namespace Jvm.Pilot.@@N@@
open Jvm Jvm.ClassFile Sem Op Lib Jvm.Free Jvm.Stand Jvm.Pilot.@@N@@.Jvm.D
/-! MADE BY PROGRAM (witnessworld.py) out of the Statement's table words and the real class files: 9 classes; the members and pool entries that the words name. The judged class is class 1, her method 1. -/
namespace start1
open Jvm.ClassFile
def u (s : String) : CpInfo := .utf8 (stringToUtf16 s)
/-- a pool by its gaps: so many unusable entries, then the entry; so many at the end -/
def gap : Nat → List CpInfo → List CpInfo
  | 0, r => r
  | n + 1, r => .unusable :: gap n r
def poolList (es : List (Nat × CpInfo)) (last : Nat) : List CpInfo := es.foldr (fun e r => gap e.1 (e.2 :: r)) (gap last [])
def pool (es : List (Nat × CpInfo)) (last : Nat) : Array CpInfo := ⟨poolList es last⟩
def fileOf (pool : Array CpInfo) (this : Nat) (attrs : Array Attribute := #[]) (ms : Array MethodInfo := #[]) (fl : Nat := 33) (sup : Nat := 0) (ifs : Array Nat := #[]) (fds : Array FieldInfo := #[]) : ClassFile where
  minorVersion := 0
  majorVersion := 65
  constantPool := pool
  accessFlags := fl
  thisClass := this
  superClass := sup
  interfaces := ifs
  fields := fds
  methods := ms
  attributes := attrs
def plain (name : String) (sup : Option ClassId) : Class where
  name := name
  kind := .ordinary
  loader := none
  accessFlags := 33
  super := sup
  interfaces := #[]
  cf := none
  fields := #[]
  methods := #[]
  instanceTypes := #[]
  staticTypes := #[]
  resolved := #[]
  callSites := []
  init := .initialized
  statics := none
  mirror := none

def pool0 : Array CpInfo := pool [(5, u "<init>"), (0, u "()V"), (1, .class_ 10), (1, u "java/lang/Object")] 113

def k0m0 : Method := { name := "<init>", desc := "()V", sig := { parameters := [], returnType := none }, accessFlags := 1, code := none }
/-- java/lang/Object -/
def k0 : Class := { plain "java/lang/Object" none with
  accessFlags := 33
  interfaces := #[]
  cf := some (fileOf pool0 8 #[] #[{ accessFlags := 1, nameIndex := 5, descriptorIndex := 6, attributes := #[] }] 33 0 #[] #[])
  fields := #[]
  methods := #[k0m0]
  instanceTypes := #[]
  staticTypes := #[]
  resolved := Array.replicate 124 none
  statics := none }

def pool1 : Array CpInfo := pool [(2, .class_ 4), (1, u "java/lang/Object"), (0, u "<init>"), (0, u "()V"), (0, .long 4095), (1, .long 2048), (1, .double 4427038433705197568), (1, .long 1099), (1, .methodref 16 17), (0, .class_ 18), (0, .nameAndType 19 20), (0, u "com/example/chronotope/chronotope/Lengths"), (0, u "atMost"), (0, u "(DD)Z"), (0, .class_ 22), (0, u "com/example/chronotope/chronotope/LengthsAtMostPinLaw"), (2, u "law"), (0, u "(JJI)Z")] 3

def k1m0 : Method := { name := "<init>", desc := "()V", sig := { parameters := [], returnType := none }, accessFlags := 2, code := none }
def k1c1 : Code := { maxStack := 4, maxLocals := 16, code := code, exceptionTable := #[], attributes := #[] }
def k1m1 : Method := { name := "law", desc := "(JJI)Z", sig := { parameters := [.long, .long, .int], returnType := some .boolean }, accessFlags := 9, code := some k1c1 }
/-- com/example/chronotope/chronotope/LengthsAtMostPinLaw -/
def k1 : Class := { plain "com/example/chronotope/chronotope/LengthsAtMostPinLaw" (some 0) with
  accessFlags := 49
  interfaces := #[]
  cf := some (fileOf pool1 21 #[] #[{ accessFlags := 2, nameIndex := 5, descriptorIndex := 6, attributes := #[] }, { accessFlags := 9, nameIndex := 25, descriptorIndex := 26, attributes := #[] }] 49 2 #[] #[])
  fields := #[]
  methods := #[k1m0, k1m1]
  instanceTypes := #[]
  staticTypes := #[]
  resolved := Array.replicate 30 none
  statics := none }

def pool2 : Array CpInfo := pool [(2, .class_ 4), (1, u "java/lang/Object"), (0, u "<init>"), (0, u "()V"), (0, .class_ 8), (0, u "com/example/chronotope/chronotope/Lengths"), (0, .double 4472406533629990549), (3, u "atMost"), (0, u "(DD)Z"), (0, u "ROUNDING"), (0, u "D")] 7

def k2m0 : Method := { name := "<init>", desc := "()V", sig := { parameters := [], returnType := none }, accessFlags := 2, code := none }
def k2c1 : Code := { maxStack := 6, maxLocals := 4, code := prog_13_method_2_code, exceptionTable := #[], attributes := #[] }
def k2m1 : Method := { name := "atMost", desc := "(DD)Z", sig := { parameters := [.double, .double], returnType := some .boolean }, accessFlags := 8, code := some k2c1 }
/-- com/example/chronotope/chronotope/Lengths -/
def k2 : Class := { plain "com/example/chronotope/chronotope/Lengths" (some 0) with
  accessFlags := 48
  interfaces := #[]
  cf := some (fileOf pool2 7 #[] #[{ accessFlags := 2, nameIndex := 5, descriptorIndex := 6, attributes := #[] }, { accessFlags := 8, nameIndex := 13, descriptorIndex := 14, attributes := #[] }] 48 2 #[] #[{ accessFlags := 24, nameIndex := 15, descriptorIndex := 16, attributes := #[] }])
  fields := #[{ name := "ROUNDING", type := .double, accessFlags := 24, slot := 0, constantValue := 0 }]
  methods := #[k2m0, k2m1]
  instanceTypes := #[]
  staticTypes := #[.double]
  resolved := Array.replicate 24 none
  statics := none }

def pool3 : Array CpInfo := pool [(1, u "java/lang/Cloneable"), (0, .class_ 1), (0, u "java/lang/Object"), (0, .class_ 3)] 3

/-- java/lang/Cloneable -/
def k3 : Class := { plain "java/lang/Cloneable" (some 0) with
  accessFlags := 1537
  interfaces := #[]
  cf := some (fileOf pool3 2 #[] #[] 1537 4 #[] #[])
  fields := #[]
  methods := #[]
  instanceTypes := #[]
  staticTypes := #[]
  resolved := Array.replicate 8 none
  statics := none }

def pool4 : Array CpInfo := pool [(1, u "java/io/Serializable"), (0, .class_ 1), (0, u "java/lang/Object"), (0, .class_ 3)] 3

/-- java/io/Serializable -/
def k4 : Class := { plain "java/io/Serializable" (some 0) with
  accessFlags := 1537
  interfaces := #[]
  cf := some (fileOf pool4 2 #[] #[] 1537 4 #[] #[])
  fields := #[]
  methods := #[]
  instanceTypes := #[]
  staticTypes := #[]
  resolved := Array.replicate 8 none
  statics := none }

/-- the primitive byte -/
def k5 : Class := { plain "byte" none with kind := .primitive 'B', accessFlags := 0x411 }
/-- [B -/
def k6 : Class := { plain "[B" (some 0) with kind := .array 5 .byte, interfaces := #[3, 4], accessFlags := 1041 }

/-- the primitive int -/
def k7 : Class := { plain "int" none with kind := .primitive 'I', accessFlags := 0x411 }
/-- [I -/
def k8 : Class := { plain "[I" (some 0) with kind := .array 7 .int, interfaces := #[3, 4], accessFlags := 1041 }

def heap : Heap := #[]
def classes : Array Class := #[k0, k1, k2, k3, k4, k5, k6, k7, k8]
def interned : List (Array UInt16 × Addr) := []
def slotsUsed : Nat := 0
def theMethod : MethodId := ⟨1, 1⟩
def args0 : Array Value := #[.long 7, .long 9, .int 3]
def aboutOver (below : List Frame) : State where
  vm := { classes := classes, interned := interned.toArray }
  heap := heap
  slotsUsed := slotsUsed
  threads := #[{ frames := .invoking theMethod args0 :: below }]
def below0 : List Frame := [.native { method := ⟨0, 0⟩, args := #[] }]
def about1 : State := aboutOver below0
def p0 : Program := .bare "" "" ""
def e0 : Env := launch0.env 0 0 0
theorem w_frames : about1.frames = Frame.invoking theMethod args0 :: below0 := rfl
set_option maxRecDepth 65536 in
theorem w_args : argsFit about1.vm theMethod args0 = true := by decide +kernel
set_option maxRecDepth 65536 in
theorem w_heap : heapFits about1 = true := by decide +kernel
set_option maxRecDepth 65536 in
theorem w_runnable : about1.curStatus? = some .runnable := by decide +kernel
set_option maxRecDepth 65536 in
theorem w_alone : about1.alone = true := by decide +kernel
set_option maxRecDepth 65536 in
theorem w_named : about1.methodNamed? x = some theMethod := by decide +kernel
set_option maxRecDepth 65536 in
theorem w_hears : about1.hears theMethod below0 = true := by decide +kernel
set_option maxRecDepth 65536 in
theorem w_ripe : about1.ripe theMethod args0 below0 = true := by decide +kernel
theorem w_running : about1.status = .running := rfl
set_option maxRecDepth 65536 in
theorem w_room : about1.hasRoom e0.platform room_1 = true :=
  launch0.hasRoom_least _ room_1 (by decide +kernel) (by decide +kernel) (by decide +kernel) (by decide +kernel) (by decide +kernel) (by decide +kernel)
theorem allAtoms_all (ts : List Jvm.Cond) (a : Array Jvm.Value) (st : Jvm.State) : (allAtoms ts).before a st = ts.all (fun c => c.before a st) := by
  induction ts with
  | nil => rfl
  | cons c t ih =>
    show (Jvm.Cond.and c (allAtoms t)).before a st = _
    rw [Jvm.Cond.before_and, ih, List.all_cons]
def words1 : List Jvm.Cond := Jvm.Cond.code x code maxLocals ret :: tables_1
/-- a 'code' word, met by the world's own term for the bytes: nothing is compared byte by byte -/
theorem code_word {y : MethodName} {bytes : ByteArray} {mx : Nat} {rt : Option FieldType} {a : Array Value} {s : State} {m : MethodId} {meth : Method} {c : Code} (h1 : s.methodNamed? y = some m) (h2 : s.vm.method? m = some meth) (h3 : meth.code = some c) (h4 : c.code = bytes)
    (h5 : (c.maxLocals == mx && c.exceptionTable.isEmpty && decide (c.maxStack ≤ mostOperands) && decide (meth.sig.returnType = rt) && !meth.locks && decide (parseMethodDescriptor y.desc = some meth.sig)) = true) : (Jvm.Cond.code y bytes mx rt).before a s = true := by
  simp only [Bool.and_eq_true, beq_iff_eq, Bool.not_eq_true', decide_eq_true_eq] at h5
  obtain ⟨⟨⟨⟨⟨g1, g2⟩, g3⟩, g4⟩, g5⟩, g6⟩ := h5
  simp [Cond.before, Cond.holds, Cond.value, h1, h2, h3, h4, g1, g2, g3, g4, g5, g6]
def isCode : Jvm.Cond → Bool
  | .code _ _ _ _ => true
  | _ => false
theorem all_split {L : List Jvm.Cond} {P : Jvm.Cond → Bool} (h1 : L.all (fun c => isCode c || P c) = true) (h2 : ∀ c ∈ L.filter isCode, P c = true) : L.all P = true := by
  refine List.all_eq_true.mpr fun c hc => ?_
  have h := List.all_eq_true.mp h1 c hc
  rcases Bool.eq_false_or_eq_true (isCode c) with hi | hi
  · exact h2 c (List.mem_filter.mpr ⟨hc, hi⟩)
  · simpa [hi] using h
set_option maxRecDepth 65536 in
theorem w_c0 : (Jvm.Cond.code x code maxLocals ret).before args0 about1 = true := code_word (m := ⟨1, 1⟩) (meth := k1m1) (c := k1c1) (by decide +kernel) rfl rfl rfl (by decide +kernel)
set_option maxRecDepth 65536 in
theorem w_c1 : (Jvm.Cond.code ({ cls := "com/example/chronotope/chronotope/Lengths", name := "atMost", desc := "(DD)Z" } : Jvm.MethodName) prog_13_method_2_code (4 : Nat) (Option.some Jvm.ClassFile.FieldType.boolean)).before args0 about1 = true := code_word (m := ⟨2, 1⟩) (meth := k2m1) (c := k2c1) (by decide +kernel) rfl rfl rfl (by decide +kernel)
def codes1 : List Jvm.Cond := [Jvm.Cond.code x code maxLocals ret, Jvm.Cond.code ({ cls := "com/example/chronotope/chronotope/Lengths", name := "atMost", desc := "(DD)Z" } : Jvm.MethodName) prog_13_method_2_code (4 : Nat) (Option.some Jvm.ClassFile.FieldType.boolean)]
set_option maxRecDepth 65536 in
theorem codes_eq : words1.filter isCode = codes1 := rfl
theorem w_codes : ∀ c ∈ words1.filter isCode, c.before args0 about1 = true := by
  rw [codes_eq]
  intro c hc
  simp only [codes1, List.mem_cons, List.not_mem_nil, or_false] at hc
  rcases hc with rfl | rfl
  · exact w_c0
  · exact w_c1
set_option maxRecDepth 65536 in
theorem w_t1 : words1.all (fun c => isCode c || c.before args0 about1) = true := by decide +kernel
theorem w_tables : (allAtoms (Jvm.Cond.code x code maxLocals ret :: tables_1)).before args0 about1 = true := by
  rw [allAtoms_all]
  show words1.all (fun c => c.before args0 about1) = true
  refine all_split ?_ w_codes
  rw [w_t1]
set_option maxRecDepth 65536 in
theorem w_case : (Jvm.Cond.and given_1 narrow_1).before args0 about1 = true := by decide +kernel
theorem w_applies : (headSpec (Jvm.Cond.code x code maxLocals ret :: tables_1) room_1).applies x e0.platform about1 = true :=
  (Spec.applies_iff w_frames).mpr ⟨w_running, w_runnable, w_alone, w_named, w_hears, w_ripe, w_room, w_tables⟩
theorem atStart : AtStart classFile x code maxLocals ret World_1 tables_1 room_1 Calls_1 rest_1 Pre_1 launch0 p0 e0 about1 theMethod args0 below0 :=
  ⟨lists_1, trivial, launch0.admits_env _ _ _, launch0.least_env, fairChoices_fair.cas, fairChoices_fair.clock, w_frames, w_args, w_heap, w_applies, trivial, trivial, w_case⟩
end start1
theorem witness_1 : WitnessClaimed_1 := ⟨start1.p0, start1.e0, start1.about1, start1.theMethod, start1.args0, start1.below0, start1.atStart⟩
end Jvm.Pilot.@@N@@
