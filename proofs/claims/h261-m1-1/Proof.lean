import JvmDerived
import JvmDerived.Pilot.@@N@@Statement
import JvmDerived.Pilot.@@N@@Code
set_option linter.unusedVariables false
set_option linter.unusedSimpArgs false

namespace Jvm.Pilot.@@N@@
section Floats
open Jvm.FP.Core
/-- a is finite, not below nought (no -0.0 either), and its value is z / 2^1074 -/
def NN (a : UInt64) (z : Nat) : Prop := ∃ c q, val64 a = .fin false c q ∧ c * 2 ^ (q + 1074).toNat = z
theorem own_one : one64 = 2 ^ 1074 := rfl
theorem own_onei : (one64 : Int) = ((2 ^ 1074 : Nat) : Int) := rfl
theorem own_fit {a : UInt64} {s : Bool} {c : Nat} {q : Int} (h : val64 a = .fin s c q) : c < 2 ^ 53 ∧ -1074 ≤ q ∧ q ≤ 971 ∧ Jvm.FP.Core.fits b64 (.fin s c q) := by
  have hf := val64_fits a
  rw [h] at hf
  have h1 : c < 2 ^ 53 := hf.1
  have h2 : b64.qmin ≤ q := hf.2.1
  have h3 : q ≤ b64.qmax := hf.2.2.1
  rw [qmin_b64] at h2
  have h4 : b64.qmax = 971 := by decide +kernel
  rw [h4] at h3
  exact ⟨h1, h2, h3, hf⟩
theorem own_inU (c : Nat) (q : Int) : inUnits c q b64.qmin = c * 2 ^ (q + 1074).toNat := by
  unfold inUnits; rw [qmin_b64, show q - -1074 = q + 1074 by omega]
theorem NN.ne {a : UInt64} {z : Nat} (h : NN a z) : val64 a ≠ .nan := by
  obtain ⟨c, q, h1, -⟩ := h; rw [h1]; exact fun k => by cases k
theorem NN.fin {a : UInt64} {z : Nat} (h : NN a z) : DFin a := by
  obtain ⟨c, q, h1, -⟩ := h; exact ⟨_, _, _, h1⟩
theorem NN.zmag {a : UInt64} {z : Nat} (h : NN a z) : zmag b64 (val64 a) = z := by
  obtain ⟨c, q, h1, h2⟩ := h; rw [h1]; show inUnits c q b64.qmin = z; rw [own_inU, h2]
theorem NN.sgn {a : UInt64} {z : Nat} (h : NN a z) : sgn (val64 a) = false := by
  obtain ⟨c, q, h1, h2⟩ := h; rw [h1]; rfl
theorem NN.zval {a : UInt64} {z : Nat} (h : NN a z) : zval b64 (val64 a) = (z : Int) := by
  unfold Jvm.FP.Core.zval; rw [h.sgn, h.zmag]; rfl
theorem NN.of {a : UInt64} (h1 : DFin a) (h2 : Jvm.FP.Core.sgn (val64 a) = false) : NN a (Jvm.FP.Core.zmag b64 (val64 a)) := by
  obtain ⟨s, c, q, h⟩ := h1
  rw [h] at h2 ⊢
  have h3 : s = false := h2
  subst h3
  exact ⟨c, q, h, (own_inU c q).symm⟩
theorem NN.cmp {a b : UInt64} {x y : Nat} (ha : NN a x) (hb : NN b y) : Jvm.FP.dcmp a b = some (compare (x : Int) (y : Int)) := by
  show Jvm.FP.Core.dcmp a b = _
  rw [dcmp_zval ha.ne hb.ne, ha.zval, hb.zval]
theorem NN.lt {a b : UInt64} {x y : Nat} (ha : NN a x) (hb : NN b y) (h : x < y) : Jvm.FP.dcmp a b = some .lt := by
  rw [ha.cmp hb, (compare_lt_iff _ _).mpr (by omega)]
theorem NN.gt {a b : UInt64} {x y : Nat} (ha : NN a x) (hb : NN b y) (h : y < x) : Jvm.FP.dcmp a b = some .gt := by
  rw [ha.cmp hb, (compare_gt_iff _ _).mpr (by omega)]
theorem NN.eq {a b : UInt64} {x y : Nat} (ha : NN a x) (hb : NN b y) (h : x = y) : Jvm.FP.dcmp a b = some .eq := by
  rw [ha.cmp hb, (compare_eq_iff _ _).mpr (by omega)]
/-- every c * 2^(k - 1074) of 53 digits is a double -/
theorem own_rep {c k : Nat} (hc : c < 2 ^ 53) (hk : k ≤ 2045) : ∃ V, NN V (c * 2 ^ k) := by
  obtain ⟨c', q', h1, h2⟩ := round_exact good_b64 false (c := c) (q := (k : Int) - 1074) hc (by rw [qmin_b64]; omega) (by rw [show b64.qmax = 971 by decide +kernel]; omega)
  refine ⟨of64 (round b64 (.fin false c ((k : Int) - 1074))), c', q', ?_, ?_⟩
  · rw [val64_of64 (round_fits good_b64 _), h1]
  · rw [own_inU, own_inU] at h2
    rw [h2, show ((k : Int) - 1074 + 1074).toNat = k by omega]
/-- a whole number that is a double -/
theorem own_nat {n : Nat} (hn : n < 2 ^ 53) : ∃ V, NN V (n * 2 ^ 1074) := own_rep hn (by omega)
theorem own_zlt {s : Bool} {c : Nat} {q : Int} (h : Jvm.FP.Core.fits b64 (.fin s c q)) : Jvm.FP.Core.zmag b64 (.fin s c q) < b64.tails * 2 ^ (b64.exps - 2) := zmag_lt_top good_b64 h
/-- a rounding that is not above a finite double is finite -/
theorem own_fin_of_le {d V : Datum} (hd : d ≠ .nan) (hV : Jvm.FP.Core.fits b64 V) (hf : ∃ s c q, V = .fin s c q) (h : Jvm.FP.Core.zmag b64 d ≤ Jvm.FP.Core.zmag b64 V) : ∃ s c q, d = .fin s c q := by
  obtain ⟨s, c, q, rfl⟩ := hf
  have h1 := own_zlt hV
  cases d with
  | nan => exact absurd rfl hd
  | inf t =>
    have h2 : Jvm.FP.Core.zmag b64 (.inf t) = b64.tails * 2 ^ (b64.exps - 2) := rfl
    rw [h2] at h
    exact absurd (Nat.lt_of_le_of_lt h h1) (Nat.lt_irrefl _)
  | fin t c' q' => exact ⟨_, _, _, rfl⟩
theorem NN.vf {a : UInt64} {z : Nat} (h : NN a z) : ∃ s c q, val64 a = .fin s c q := h.fin
/-- the quotient of two doubles: nothing lies between it and the exact one -/
theorem own_ddiv {a b B : UInt64} {x y w : Nat} (ha : NN a x) (hb : NN b y) (hy : 0 < y) (hB : NN B w) (hle : x * 2 ^ 1074 ≤ w * y) :
    ∃ z, NN (Jvm.FP.ddiv a b) z ∧ (∀ V v, NN V v → x * 2 ^ 1074 ≤ v * y → z ≤ v) ∧ (∀ V v, NN V v → v * y ≤ x * 2 ^ 1074 → v ≤ z) := by
  have hbz := hb.zmag
  obtain ⟨c, q, h1, h2⟩ := ha
  obtain ⟨d, r, h3, h4⟩ := hb
  obtain ⟨-, q1, q2, -⟩ := own_fit h1
  obtain ⟨-, r1, r2, -⟩ := own_fit h3
  have hd : d ≠ 0 := by rintro rfl; rw [Nat.zero_mul] at h4; omega
  have hv : val64 (Jvm.FP.Core.ddiv a b) = roundRatio b64 false c d (q - r) := by
    rw [val64_ddiv, h1, h3]; show (if d = 0 then _ else _) = _; rw [if_neg hd]; rfl
  have e1 : inUnits c (q - r) (b64.qmin - (r + 1074)) = x * 2 ^ 1074 := by
    unfold inUnits
    rw [qmin_b64, ← h2, show (q - r - (-1074 - (r + 1074))).toNat = (q + 1074).toNat + 1074 by omega, Nat.pow_add, Nat.mul_assoc]
  have e2 : ∀ v : Nat, v * 2 ^ (b64.qmin - (b64.qmin - (r + 1074))).toNat * d = v * y := by
    intro v
    rw [show b64.qmin - (b64.qmin - (r + 1074)) = r + 1074 by omega, ← h4, Nat.mul_assoc, Nat.mul_comm (2 ^ _) d]
  have le : ∀ V v, NN V v → x * 2 ^ 1074 ≤ v * y → Jvm.FP.Core.zmag b64 (roundRatio b64 false c d (q - r)) ≤ v := by
    intro V v hV h
    have k := zmag_roundRatio_le good_b64 (s := false) (A := c) (B := d) (e := q - r) (e0 := b64.qmin - (r + 1074)) (V := val64 V) (by omega) (val64_fits V) hV.ne (by omega) (by rw [qmin_b64]; omega) (by rw [e1, e2, hV.zmag]; exact h)
    rw [hV.zmag] at k; exact k
  have ge : ∀ V v, NN V v → v * y ≤ x * 2 ^ 1074 → v ≤ Jvm.FP.Core.zmag b64 (roundRatio b64 false c d (q - r)) := by
    intro V v hV h
    have k := zmag_roundRatio_ge good_b64 (s := false) (A := c) (B := d) (e := q - r) (e0 := b64.qmin - (r + 1074)) (V := val64 V) (by omega) (val64_fits V) (by omega) (by rw [qmin_b64]; omega) (by rw [e1, e2, hV.zmag]; exact h)
    rw [hV.zmag] at k; exact k
  have fin : DFin (Jvm.FP.Core.ddiv a b) := by
    refine own_fin_of_le (V := val64 B) ?_ (val64_fits B) hB.vf ?_
    · rw [hv]; exact roundRatio_ne_nan _ _ _ _ _
    · rw [hv, hB.zmag]; exact le B w hB hle
  have sg : Jvm.FP.Core.sgn (val64 (Jvm.FP.Core.ddiv a b)) = false := by rw [hv]; exact sgn_roundRatio _ _ _ _ _
  refine ⟨_, NN.of fin sg, ?_, ?_⟩
  · intro V v hV h; rw [hv]; exact le V v hV h
  · intro V v hV h; rw [hv]; exact ge V v hV h
/-- the product likewise -/
theorem own_dmul {a b B : UInt64} {x y w : Nat} (ha : NN a x) (hb : NN b y) (hB : NN B w) (hle : x * y ≤ w * 2 ^ 1074) :
    ∃ z, NN (Jvm.FP.dmul a b) z ∧ (∀ V v, NN V v → x * y ≤ v * 2 ^ 1074 → z ≤ v) ∧ (∀ V v, NN V v → v * 2 ^ 1074 ≤ x * y → v ≤ z) := by
  have haz := ha.zmag
  have hbz := hb.zmag
  obtain ⟨c, q, h1, h2⟩ := ha
  obtain ⟨d, r, h3, h4⟩ := hb
  obtain ⟨-, q1, q2, f1⟩ := own_fit h1
  obtain ⟨-, r1, r2, f2⟩ := own_fit h3
  obtain ⟨p1, p2, p3⟩ := product_units f1 f2
  rw [h1] at haz
  rw [h3] at hbz
  rw [haz, hbz] at p3
  have hv : val64 (Jvm.FP.Core.dmul a b) = roundRatio b64 false (c * d) 1 (q + r) := by
    rw [val64_dmul, h1, h3, p1]; rfl
  have e2 : ∀ v : Nat, v * 2 ^ (b64.qmin - 2 * b64.qmin).toNat * 1 = v * 2 ^ 1074 := by
    intro v
    rw [qmin_b64, Nat.mul_one]; rfl
  have le : ∀ V v, NN V v → x * y ≤ v * 2 ^ 1074 → Jvm.FP.Core.zmag b64 (roundRatio b64 false (c * d) 1 (q + r)) ≤ v := by
    intro V v hV h
    have k := zmag_roundRatio_le good_b64 (s := false) (A := c * d) (B := 1) (e := q + r) (e0 := 2 * b64.qmin) (V := val64 V) (by omega) (val64_fits V) hV.ne (by rw [qmin_b64]; omega) p2 (by rw [p3, e2, hV.zmag]; exact h)
    rw [hV.zmag] at k; exact k
  have ge : ∀ V v, NN V v → v * 2 ^ 1074 ≤ x * y → v ≤ Jvm.FP.Core.zmag b64 (roundRatio b64 false (c * d) 1 (q + r)) := by
    intro V v hV h
    have k := zmag_roundRatio_ge good_b64 (s := false) (A := c * d) (B := 1) (e := q + r) (e0 := 2 * b64.qmin) (V := val64 V) (by omega) (val64_fits V) (by rw [qmin_b64]; omega) p2 (by rw [p3, e2, hV.zmag]; exact h)
    rw [hV.zmag] at k; exact k
  have fin : DFin (Jvm.FP.Core.dmul a b) := by
    refine own_fin_of_le (V := val64 B) ?_ (val64_fits B) hB.vf ?_
    · rw [hv]; exact roundRatio_ne_nan _ _ _ _ _
    · rw [hv, hB.zmag]; exact le B w hB hle
  have sg : Jvm.FP.Core.sgn (val64 (Jvm.FP.Core.dmul a b)) = false := by rw [hv]; exact sgn_roundRatio _ _ _ _ _
  refine ⟨_, NN.of fin sg, ?_, ?_⟩
  · intro V v hV h; rw [hv]; exact le V v hV h
  · intro V v hV h; rw [hv]; exact ge V v hV h
/-- whole numbers up to 2^53 -/
theorem own_l2d {n : Int64} {k : Nat} (h : n.toInt = k) (hk : k ≤ 2 ^ 53) : NN (Jvm.FP.l2d n) (k * 2 ^ 1074) := by
  have h1 : DInt n.toInt (Jvm.FP.Core.l2d n) := l2d_int (by rw [h]; exact hk)
  have h2 := DInt_zval h1
  obtain ⟨c, q, h3⟩ := l2d_shape n
  have h4 : decide (n.toInt < 0) = false := by rw [h]; simp
  rw [h4] at h3
  refine ⟨c, q, h3, ?_⟩
  rw [h3, h] at h2
  have h5 : Jvm.FP.Core.zval b64 (.fin false c q) = ((inUnits c q b64.qmin : Nat) : Int) := rfl
  rw [h5, own_inU, own_onei] at h2
  exact Int.ofNat.inj (by rw [Int.ofNat_eq_natCast, Int.ofNat_eq_natCast, h2]; exact (Int.natCast_mul _ _).symm)
theorem own_i2d {n : Int32} {k : Nat} (h : n.toInt = k) : NN (Jvm.FP.i2d n) (k * 2 ^ 1074) := by
  have e : Jvm.FP.i2d n = Jvm.FP.l2d n.toInt64 := i2d_l2d n
  rw [e]
  have := n.toInt_lt
  exact own_l2d (by rw [Int32.toInt_toInt64, h]) (by omega)
theorem NN.noNaN {a : UInt64} {z : Nat} (h : NN a z) : Jvm.Free.Fl.NoNaN64 a := by
  rw [Jvm.Free.Fl.noNaN64_iff]
  exact (ne_nan a).mp h.ne
theorem NN.inj {a : UInt64} {x y : Nat} (h : NN a x) (k : NN a y) : x = y := h.zmag.symm.trans k.zmag
end Floats

section Rel
open Jvm.FP.Core
/-- the rounding's relative error, in the range where all 53 digits are there -/
theorem own_rel {s t : Bool} {A B c : Nat} {e q e0 : Int} (hA : 0 < A) (hB : 0 < B) (h : roundRatio b64 s A B e = .fin t c q) (h0 : e0 ≤ b64.qmin) (h0e : e0 ≤ e)
    (hbig : 2 ^ 52 * (B * 2 ^ (b64.qmin - e0).toNat) ≤ inUnits A e e0) :
    2 ^ 53 * (inUnits c q e0 * B) ≤ (2 ^ 53 + 1) * inUnits A e e0 ∧ (2 ^ 53 - 1) * inUnits A e e0 ≤ 2 ^ 53 * (inUnits c q e0 * B) := by
  have g1 := quantum_ge b64 A B e
  have g2 := nearest_units_le (f := b64) hA hB e
  have g3 := quantum_not_below (f := b64) hA hB e
  rw [show ((b64.p : Int) - 1) = ((52 : Nat) : Int) from rfl, ← units_below] at g3
  unfold roundRatio at h
  rw [if_neg (by omega)] at h
  unfold roundAt at h
  generalize quantum b64 A B e = r at h g1 g2 g3
  have hv := (settle_value good_b64 (e0 := e0) g2 h (by omega)).2
  have hw : 0 < unitsDen B e r := unitsDen_pos hB e r
  have hs := nearest_spec (unitsNum A e r) (unitsDen B e r) hw
  have ha : inUnits A e e0 = unitsNum A e r * 2 ^ (min e r - e0).toNat := by
    show A * 2 ^ (e - e0).toNat = A * 2 ^ (e - r).toNat * 2 ^ (min e r - e0).toNat
    have k : (e - r).toNat + (min e r - e0).toNat = (e - e0).toNat := by omega
    rw [Nat.mul_assoc, ← Nat.pow_add, k]
  have hD : B * 2 ^ (r - e0).toNat = unitsDen B e r * 2 ^ (min e r - e0).toNat := by
    show B * 2 ^ (r - e0).toNat = B * 2 ^ (r - e).toNat * 2 ^ (min e r - e0).toNat
    have k : (r - e).toNat + (min e r - e0).toNat = (r - e0).toNat := by omega
    rw [Nat.mul_assoc, ← Nat.pow_add, k]
  generalize nearest (unitsNum A e r) (unitsDen B e r) = N at hs hv
  have hc : inUnits c q e0 * B = N * unitsDen B e r * 2 ^ (min e r - e0).toNat := by
    rw [hv, Nat.mul_assoc N, ← hD]
    unfold inUnits
    rw [Nat.mul_assoc, Nat.mul_comm (2 ^ _) B]
  have hP : 0 < 2 ^ (min e r - e0).toNat := Nat.two_pow_pos _
  have g4 : 2 ^ 52 * unitsDen B e r ≤ unitsNum A e r := by
    rcases g3 with g3 | g3
    · rw [← g3, hD, ha, ← Nat.mul_assoc] at hbig
      exact Nat.le_of_mul_le_mul_right hbig hP
    · exact Nat.le_of_not_lt g3
  rw [hc, ha]
  obtain ⟨s1, s2, -⟩ := hs
  generalize unitsNum A e r = u at *
  generalize unitsDen B e r = w at *
  generalize 2 ^ (min e r - e0).toNat = P at *
  have k1 : (2 * N + 1) * w = 2 * (N * w) + w := by rw [Nat.add_mul, Nat.one_mul, Nat.mul_assoc]
  have k2 : 2 * N * w = 2 * (N * w) := Nat.mul_assoc _ _ _
  rw [k1] at s1
  rw [k2] at s2
  generalize N * w = y at *
  constructor
  · rw [← Nat.mul_assoc, ← Nat.mul_assoc]
    exact Nat.mul_le_mul_right P (by omega)
  · rw [← Nat.mul_assoc, ← Nat.mul_assoc]
    exact Nat.mul_le_mul_right P (by omega)
theorem own_l2dr {n : Int64} {k : Nat} (h : n.toInt = k) (hk : 0 < k) :
    ∃ z, NN (Jvm.FP.l2d n) z ∧ 2 ^ 53 * z ≤ (2 ^ 53 + 1) * (k * 2 ^ 1074) ∧ (2 ^ 53 - 1) * (k * 2 ^ 1074) ≤ 2 ^ 53 * z := by
  obtain ⟨c, q, h3⟩ := l2d_shape n
  have h4 : decide (n.toInt < 0) = false := by rw [h]; simp
  rw [h4] at h3
  have h5 : roundRatio b64 false k 1 0 = .fin false c q := by
    rw [← h3, val64_l2d]
    show _ = roundRatio b64 (decide (n.toInt < 0)) n.toInt.natAbs 1 0
    rw [h4, h]; rfl
  have e1 : inUnits k 0 b64.qmin = k * 2 ^ 1074 := by rw [own_inU]; rfl
  have h6 := own_rel hk (by omega) h5 (e0 := b64.qmin) (Int.le_refl _) (by rw [qmin_b64]; omega) (by
    rw [e1, Int.sub_self]
    show 2 ^ 52 * (1 * 1) ≤ k * 2 ^ 1074
    have : (2 ^ 52 : Nat) ≤ 2 ^ 1074 := Nat.pow_le_pow_right (by omega) (by omega)
    calc 2 ^ 52 * (1 * 1) = 2 ^ 52 := by omega
      _ ≤ 2 ^ 1074 := this
      _ = 1 * 2 ^ 1074 := (Nat.one_mul _).symm
      _ ≤ k * 2 ^ 1074 := Nat.mul_le_mul_right _ hk)
  rw [e1, own_inU, Nat.mul_one] at h6
  exact ⟨_, ⟨c, q, h3, rfl⟩, h6.1, h6.2⟩
theorem own_ddivr {a b B : UInt64} {x y w : Nat} (ha : NN a x) (hb : NN b y) (hx : 0 < x) (hy : 0 < y) (hB : NN B w) (hle : x * 2 ^ 1074 ≤ w * y) (hbig : 2 ^ 52 * y ≤ x * 2 ^ 1074) :
    ∃ z, NN (Jvm.FP.ddiv a b) z ∧ 2 ^ 53 * (z * y) ≤ (2 ^ 53 + 1) * (x * 2 ^ 1074) ∧ (2 ^ 53 - 1) * (x * 2 ^ 1074) ≤ 2 ^ 53 * (z * y) := by
  obtain ⟨z, hz, -, -⟩ := own_ddiv ha hb hy hB hle
  refine ⟨z, hz, ?_⟩
  obtain ⟨c, q, h1, h2⟩ := ha
  obtain ⟨d, r, h3, h4⟩ := hb
  obtain ⟨c', q', h5, h6⟩ := hz
  obtain ⟨-, q1, q2, -⟩ := own_fit h1
  obtain ⟨-, r1, r2, -⟩ := own_fit h3
  obtain ⟨-, t1, t2, -⟩ := own_fit h5
  have hd : d ≠ 0 := by rintro rfl; rw [Nat.zero_mul] at h4; omega
  have hc : c ≠ 0 := by rintro rfl; rw [Nat.zero_mul] at h2; omega
  have hv : roundRatio b64 false c d (q - r) = .fin false c' q' := by
    rw [← h5, show val64 (Jvm.FP.ddiv a b) = quotient b64 (val64 a) (val64 b) from val64_ddiv a b, h1, h3]; show _ = (if d = 0 then _ else _); rw [if_neg hd]; rfl
  have e1 : inUnits c (q - r) (b64.qmin - (r + 1074)) = x * 2 ^ 1074 := by
    unfold inUnits
    rw [qmin_b64, ← h2, show (q - r - (-1074 - (r + 1074))).toNat = (q + 1074).toNat + 1074 by omega, Nat.pow_add, Nat.mul_assoc]
  have e3 : d * 2 ^ (b64.qmin - (b64.qmin - (r + 1074))).toNat = y := by
    rw [show b64.qmin - (b64.qmin - (r + 1074)) = r + 1074 by omega, ← h4]
  have e4 : inUnits c' q' (b64.qmin - (r + 1074)) * d = z * y := by
    unfold inUnits
    rw [qmin_b64, ← h6, ← h4, show (q' - (-1074 - (r + 1074))).toNat = (q' + 1074).toNat + (r + 1074).toNat by omega, Nat.pow_add]
    ac_rfl
  have k := own_rel (by omega) (by omega) hv (e0 := b64.qmin - (r + 1074)) (by omega) (by rw [qmin_b64]; omega) (by rw [e3, e1]; exact hbig)
  rw [e1, e4] at k
  exact k
end Rel

end Jvm.Pilot.@@N@@
namespace Jvm.Pilot.@@N@@
open Jvm Jvm.ClassFile Sem Op Lib Jvm.Free Jvm.Stand Jvm.LawKit Jvm.RoadKit Bundle Jvm.Pilot.@@N@@.Jvm.D
/-- the run comes from the state A to an end of which P holds -/
def Ends (p : Program) (e : Env) (below : List Frame) (P : State → Outcome → Prop) (A : State) : Prop := ∃ t o, Steps p.tables e below A t ∧ t.status = .running ∧ Ended t below o ∧ P t o
theorem Ends.pre {p : Program} {e : Env} {below : List Frame} {P : State → Outcome → Prop} {A B : State} (h : ∀ t, Steps p.tables e below B t → Steps p.tables e below A t) (k : Ends p e below P B) : Ends p e below P A := by
  obtain ⟨t, o, h1, h2⟩ := k
  exact ⟨t, o, h t h1, h2⟩
theorem own_sta_keep0 {Z : State} {h h' : Heap} {C n d : String} {v : Value} (F : Sta Z h C n d v) (K : Keep h h' []) : Sta Z h' C n d v := by
  obtain ⟨cf, i, k, f, st, cell, h1, h2, h3, h4, h5, h6, h7⟩ := F
  exact ⟨cf, i, k, f, st, cell, h1, h2, h3, h4, K.2.1 _ _ h5 nin0, h6, h7⟩
theorem own_sta_keep1 {Z : State} {h h' : Heap} {C n d : String} {v : Value} {b : Addr} {C' : String} (F : Sta Z h C n d v) (K : Keep h h' [b]) (E : Exa Z h b C') : Sta Z h' C n d v := by
  obtain ⟨cf, i, k, f, st, cell, h1, h2, h3, h4, h5, h6, h7⟩ := F
  obtain ⟨c2, k2, g1, g2, g3, g4, g5⟩ := E
  have ne : st ≠ b := fun q => by subst q; cases h5.symm.trans g1; rw [h6] at g4; cases g4
  exact ⟨cf, i, k, f, st, cell, h1, h2, h3, h4, K.2.1 _ _ h5 (ninS ne nin0), h6, h7⟩

section Quot
open Jvm.FP.Core
theorem own_one_nn : NN Jvm.FP.dconst1 (1 * 2 ^ 1074) := by
  refine ⟨2 ^ 52, -52, val64_dconst1, ?_⟩
  rw [show ((-52 : Int) + 1074).toNat = 1022 from rfl, ← Nat.pow_add, Nat.one_mul]
/-- the arithmetic of the two bounds, d up to 2^53 -/
theorem own_bnd1 {n d Q zN zR M : Nat} (hd : 4096 ≤ d) (hn : n < 2 ^ 63) (hQ1 : Q * d ≤ n) (hQ2 : n < Q * d + d) (hM : 0 < M)
    (a1 : 2 ^ 53 * zN ≤ (2 ^ 53 + 1) * (n * M)) (a2 : (2 ^ 53 - 1) * (n * M) ≤ 2 ^ 53 * zN) (b1 : 2 ^ 53 * (zR * d) ≤ (2 ^ 53 + 1) * M) (b2 : (2 ^ 53 - 1) * M ≤ 2 ^ 53 * (zR * d)) :
    2 * (zN * zR) ≤ (2 * Q + 3) * (M * M) ∧ (Q - 1) * (M * M) ≤ zN * zR := by
  have hdp : 0 < d := by omega
  have hMM : 0 < M * M := Nat.mul_pos hM hM
  have u1 := Nat.mul_le_mul a1 b1
  have u2 := Nat.mul_le_mul a2 b2
  have f1 : 2 ^ 53 * zN * (2 ^ 53 * (zR * d)) = 2 ^ 106 * ((zN * zR) * d) := by
    rw [show (2 ^ 106 : Nat) = 2 ^ 53 * 2 ^ 53 from by decide]; (try generalize (2 : Nat) ^ 1074 = A1); (try generalize (2 : Nat) ^ 1073 = A2); (try generalize (2 : Nat) ^ 1042 = A3); (try generalize (2 : Nat) ^ 2045 = A4); (try generalize (2 : Nat) ^ (0 - (-2148) : Int).toNat = A5); ac_rfl
  have f2 : (2 ^ 53 + 1) * (n * M) * ((2 ^ 53 + 1) * M) = ((2 ^ 53 + 1) * (2 ^ 53 + 1)) * (n * (M * M)) := by (try generalize (2 : Nat) ^ 1074 = A1); (try generalize (2 : Nat) ^ 1073 = A2); (try generalize (2 : Nat) ^ 1042 = A3); (try generalize (2 : Nat) ^ 2045 = A4); (try generalize (2 : Nat) ^ (0 - (-2148) : Int).toNat = A5); ac_rfl
  have f3 : (2 ^ 53 - 1) * (n * M) * ((2 ^ 53 - 1) * M) = ((2 ^ 53 - 1) * (2 ^ 53 - 1)) * (n * (M * M)) := by (try generalize (2 : Nat) ^ 1074 = A1); (try generalize (2 : Nat) ^ 1073 = A2); (try generalize (2 : Nat) ^ 1042 = A3); (try generalize (2 : Nat) ^ 2045 = A4); (try generalize (2 : Nat) ^ (0 - (-2148) : Int).toNat = A5); ac_rfl
  rw [f1, f2] at u1
  rw [f3, f1] at u2
  constructor
  · have w1 : 2 * ((2 ^ 53 + 1) * (2 ^ 53 + 1)) * n ≤ 2 ^ 106 * ((2 * Q + 3) * d) := by
      rw [show (2 * Q + 3) * d = 2 * (Q * d) + 3 * d by rw [Nat.add_mul, Nat.mul_assoc]]; omega
    have w2 := Nat.mul_le_mul_right (M * M) w1
    refine Nat.le_of_mul_le_mul_right (c := 2 ^ 106 * d) ?_ (by omega)
    calc 2 * (zN * zR) * (2 ^ 106 * d) = 2 * (2 ^ 106 * ((zN * zR) * d)) := by (try generalize (2 : Nat) ^ 1074 = A1); (try generalize (2 : Nat) ^ 1073 = A2); (try generalize (2 : Nat) ^ 1042 = A3); (try generalize (2 : Nat) ^ 2045 = A4); (try generalize (2 : Nat) ^ (0 - (-2148) : Int).toNat = A5); ac_rfl
      _ ≤ 2 * (((2 ^ 53 + 1) * (2 ^ 53 + 1)) * (n * (M * M))) := Nat.mul_le_mul_left 2 u1
      _ = 2 * ((2 ^ 53 + 1) * (2 ^ 53 + 1)) * n * (M * M) := by (try generalize (2 : Nat) ^ 1074 = A1); (try generalize (2 : Nat) ^ 1073 = A2); (try generalize (2 : Nat) ^ 1042 = A3); (try generalize (2 : Nat) ^ 2045 = A4); (try generalize (2 : Nat) ^ (0 - (-2148) : Int).toNat = A5); ac_rfl
      _ ≤ 2 ^ 106 * ((2 * Q + 3) * d) * (M * M) := w2
      _ = (2 * Q + 3) * (M * M) * (2 ^ 106 * d) := by (try generalize (2 : Nat) ^ 1074 = A1); (try generalize (2 : Nat) ^ 1073 = A2); (try generalize (2 : Nat) ^ 1042 = A3); (try generalize (2 : Nat) ^ 2045 = A4); (try generalize (2 : Nat) ^ (0 - (-2148) : Int).toNat = A5); ac_rfl
  · have w1 : 2 ^ 106 * ((Q - 1) * d) ≤ (2 ^ 53 - 1) * (2 ^ 53 - 1) * n := by
      rw [Nat.sub_mul, Nat.one_mul]; omega
    have w2 := Nat.mul_le_mul_right (M * M) w1
    refine Nat.le_of_mul_le_mul_right (c := 2 ^ 106 * d) ?_ (by omega)
    calc (Q - 1) * (M * M) * (2 ^ 106 * d) = 2 ^ 106 * ((Q - 1) * d) * (M * M) := by (try generalize (2 : Nat) ^ 1074 = A1); (try generalize (2 : Nat) ^ 1073 = A2); (try generalize (2 : Nat) ^ 1042 = A3); (try generalize (2 : Nat) ^ 2045 = A4); (try generalize (2 : Nat) ^ (0 - (-2148) : Int).toNat = A5); ac_rfl
      _ ≤ (2 ^ 53 - 1) * (2 ^ 53 - 1) * n * (M * M) := w2
      _ = (2 ^ 53 - 1) * (2 ^ 53 - 1) * (n * (M * M)) := Nat.mul_assoc _ _ _
      _ ≤ 2 ^ 106 * ((zN * zR) * d) := u2
      _ = zN * zR * (2 ^ 106 * d) := by (try generalize (2 : Nat) ^ 1074 = A1); (try generalize (2 : Nat) ^ 1073 = A2); (try generalize (2 : Nat) ^ 1042 = A3); (try generalize (2 : Nat) ^ 2045 = A4); (try generalize (2 : Nat) ^ (0 - (-2148) : Int).toNat = A5); ac_rfl
/-- the same where d itself is rounded: zD, with d above 2^53 -/
theorem own_bnd2 {n d Q zN zR zD M : Nat} (hd : 2 ^ 53 ≤ d) (hn : n < 2 ^ 63) (hQ1 : Q * d ≤ n) (hQ2 : n < Q * d + d) (hM : 0 < M)
    (a1 : 2 ^ 53 * zN ≤ (2 ^ 53 + 1) * (n * M)) (a2 : (2 ^ 53 - 1) * (n * M) ≤ 2 ^ 53 * zN) (c1 : 2 ^ 53 * zD ≤ (2 ^ 53 + 1) * (d * M)) (c2 : (2 ^ 53 - 1) * (d * M) ≤ 2 ^ 53 * zD)
    (b1 : 2 ^ 53 * (zR * zD) ≤ (2 ^ 53 + 1) * (M * M)) (b2 : (2 ^ 53 - 1) * (M * M) ≤ 2 ^ 53 * (zR * zD)) :
    2 * (zN * zR) ≤ (2 * Q + 3) * (M * M) ∧ (Q - 1) * (M * M) ≤ zN * zR := by
  have hdp : 0 < d := by omega
  -- (2^53 - 1) * (zR * d) * 2^53 ≤ ...
  have d1 : (2 ^ 53 - 1) * (zR * d) ≤ (2 ^ 53 + 1) * M := by
    have k := Nat.mul_le_mul_left zR c2
    have k2 : zR * ((2 ^ 53 - 1) * (d * M)) ≤ (2 ^ 53 + 1) * (M * M) := Nat.le_trans k (by rw [Nat.mul_left_comm]; exact b1)
    refine Nat.le_of_mul_le_mul_right (c := M) ?_ hM
    calc (2 ^ 53 - 1) * (zR * d) * M = zR * ((2 ^ 53 - 1) * (d * M)) := by (try generalize (2 : Nat) ^ 1074 = A1); (try generalize (2 : Nat) ^ 1073 = A2); (try generalize (2 : Nat) ^ 1042 = A3); (try generalize (2 : Nat) ^ 2045 = A4); (try generalize (2 : Nat) ^ (0 - (-2148) : Int).toNat = A5); ac_rfl
      _ ≤ (2 ^ 53 + 1) * (M * M) := k2
      _ = (2 ^ 53 + 1) * M * M := (Nat.mul_assoc _ _ _).symm
  have d2 : (2 ^ 53 - 1) * M ≤ (2 ^ 53 + 1) * (zR * d) := by
    have k := Nat.mul_le_mul_left zR c1
    have k2 : (2 ^ 53 - 1) * (M * M) ≤ zR * ((2 ^ 53 + 1) * (d * M)) := Nat.le_trans b2 (by rw [Nat.mul_left_comm]; exact k)
    refine Nat.le_of_mul_le_mul_right (c := M) ?_ hM
    calc (2 ^ 53 - 1) * M * M = (2 ^ 53 - 1) * (M * M) := Nat.mul_assoc _ _ _
      _ ≤ zR * ((2 ^ 53 + 1) * (d * M)) := k2
      _ = (2 ^ 53 + 1) * (zR * d) * M := by (try generalize (2 : Nat) ^ 1074 = A1); (try generalize (2 : Nat) ^ 1073 = A2); (try generalize (2 : Nat) ^ 1042 = A3); (try generalize (2 : Nat) ^ 2045 = A4); (try generalize (2 : Nat) ^ (0 - (-2148) : Int).toNat = A5); ac_rfl
  have u1 := Nat.mul_le_mul a1 d1
  have u2 := Nat.mul_le_mul a2 d2
  have f1 : 2 ^ 53 * zN * ((2 ^ 53 - 1) * (zR * d)) = (2 ^ 53 * (2 ^ 53 - 1)) * ((zN * zR) * d) := by (try generalize (2 : Nat) ^ 1074 = A1); (try generalize (2 : Nat) ^ 1073 = A2); (try generalize (2 : Nat) ^ 1042 = A3); (try generalize (2 : Nat) ^ 2045 = A4); (try generalize (2 : Nat) ^ (0 - (-2148) : Int).toNat = A5); ac_rfl
  have f1' : 2 ^ 53 * zN * ((2 ^ 53 + 1) * (zR * d)) = (2 ^ 53 * (2 ^ 53 + 1)) * ((zN * zR) * d) := by (try generalize (2 : Nat) ^ 1074 = A1); (try generalize (2 : Nat) ^ 1073 = A2); (try generalize (2 : Nat) ^ 1042 = A3); (try generalize (2 : Nat) ^ 2045 = A4); (try generalize (2 : Nat) ^ (0 - (-2148) : Int).toNat = A5); ac_rfl
  have f2 : (2 ^ 53 + 1) * (n * M) * ((2 ^ 53 + 1) * M) = ((2 ^ 53 + 1) * (2 ^ 53 + 1)) * (n * (M * M)) := by (try generalize (2 : Nat) ^ 1074 = A1); (try generalize (2 : Nat) ^ 1073 = A2); (try generalize (2 : Nat) ^ 1042 = A3); (try generalize (2 : Nat) ^ 2045 = A4); (try generalize (2 : Nat) ^ (0 - (-2148) : Int).toNat = A5); ac_rfl
  have f3 : (2 ^ 53 - 1) * (n * M) * ((2 ^ 53 - 1) * M) = ((2 ^ 53 - 1) * (2 ^ 53 - 1)) * (n * (M * M)) := by (try generalize (2 : Nat) ^ 1074 = A1); (try generalize (2 : Nat) ^ 1073 = A2); (try generalize (2 : Nat) ^ 1042 = A3); (try generalize (2 : Nat) ^ 2045 = A4); (try generalize (2 : Nat) ^ (0 - (-2148) : Int).toNat = A5); ac_rfl
  rw [f1, f2] at u1
  rw [f3, f1'] at u2
  constructor
  · have w1 : 2 * ((2 ^ 53 + 1) * (2 ^ 53 + 1)) * n ≤ (2 ^ 53 * (2 ^ 53 - 1)) * ((2 * Q + 3) * d) := by
      rw [show (2 * Q + 3) * d = 2 * (Q * d) + 3 * d by rw [Nat.add_mul, Nat.mul_assoc]]; omega
    have w2 := Nat.mul_le_mul_right (M * M) w1
    refine Nat.le_of_mul_le_mul_right (c := (2 ^ 53 * (2 ^ 53 - 1)) * d) ?_ (by omega)
    calc 2 * (zN * zR) * ((2 ^ 53 * (2 ^ 53 - 1)) * d) = 2 * ((2 ^ 53 * (2 ^ 53 - 1)) * ((zN * zR) * d)) := by (try generalize (2 : Nat) ^ 1074 = A1); (try generalize (2 : Nat) ^ 1073 = A2); (try generalize (2 : Nat) ^ 1042 = A3); (try generalize (2 : Nat) ^ 2045 = A4); (try generalize (2 : Nat) ^ (0 - (-2148) : Int).toNat = A5); ac_rfl
      _ ≤ 2 * (((2 ^ 53 + 1) * (2 ^ 53 + 1)) * (n * (M * M))) := Nat.mul_le_mul_left 2 u1
      _ = 2 * ((2 ^ 53 + 1) * (2 ^ 53 + 1)) * n * (M * M) := by (try generalize (2 : Nat) ^ 1074 = A1); (try generalize (2 : Nat) ^ 1073 = A2); (try generalize (2 : Nat) ^ 1042 = A3); (try generalize (2 : Nat) ^ 2045 = A4); (try generalize (2 : Nat) ^ (0 - (-2148) : Int).toNat = A5); ac_rfl
      _ ≤ (2 ^ 53 * (2 ^ 53 - 1)) * ((2 * Q + 3) * d) * (M * M) := w2
      _ = (2 * Q + 3) * (M * M) * ((2 ^ 53 * (2 ^ 53 - 1)) * d) := by (try generalize (2 : Nat) ^ 1074 = A1); (try generalize (2 : Nat) ^ 1073 = A2); (try generalize (2 : Nat) ^ 1042 = A3); (try generalize (2 : Nat) ^ 2045 = A4); (try generalize (2 : Nat) ^ (0 - (-2148) : Int).toNat = A5); ac_rfl
  · have w1 : (2 ^ 53 * (2 ^ 53 + 1)) * ((Q - 1) * d) ≤ (2 ^ 53 - 1) * (2 ^ 53 - 1) * n := by
      rw [Nat.sub_mul, Nat.one_mul]; omega
    have w2 := Nat.mul_le_mul_right (M * M) w1
    refine Nat.le_of_mul_le_mul_right (c := (2 ^ 53 * (2 ^ 53 + 1)) * d) ?_ (by omega)
    calc (Q - 1) * (M * M) * ((2 ^ 53 * (2 ^ 53 + 1)) * d) = (2 ^ 53 * (2 ^ 53 + 1)) * ((Q - 1) * d) * (M * M) := by (try generalize (2 : Nat) ^ 1074 = A1); (try generalize (2 : Nat) ^ 1073 = A2); (try generalize (2 : Nat) ^ 1042 = A3); (try generalize (2 : Nat) ^ 2045 = A4); (try generalize (2 : Nat) ^ (0 - (-2148) : Int).toNat = A5); ac_rfl
      _ ≤ (2 ^ 53 - 1) * (2 ^ 53 - 1) * n * (M * M) := w2
      _ = (2 ^ 53 - 1) * (2 ^ 53 - 1) * (n * (M * M)) := Nat.mul_assoc _ _ _
      _ ≤ (2 ^ 53 * (2 ^ 53 + 1)) * ((zN * zR) * d) := u2
      _ = zN * zR * ((2 ^ 53 * (2 ^ 53 + 1)) * d) := by (try generalize (2 : Nat) ^ 1074 = A1); (try generalize (2 : Nat) ^ 1073 = A2); (try generalize (2 : Nat) ^ 1042 = A3); (try generalize (2 : Nat) ^ 2045 = A4); (try generalize (2 : Nat) ^ (0 - (-2148) : Int).toNat = A5); ac_rfl
/-- the reciprocal is a number -/
theorem own_recip {d : Int64} {k : Nat} (h : d.toInt = k) (hk : 4096 ≤ k) : ∃ zD zR, NN (Jvm.FP.l2d d) zD ∧ NN (Jvm.FP.ddiv Jvm.FP.dconst1 (Jvm.FP.l2d d)) zR
    ∧ 2 ^ 53 * zD ≤ (2 ^ 53 + 1) * (k * 2 ^ 1074) ∧ (2 ^ 53 - 1) * (k * 2 ^ 1074) ≤ 2 ^ 53 * zD
    ∧ 2 ^ 53 * (zR * zD) ≤ (2 ^ 53 + 1) * (2 ^ 1074 * 2 ^ 1074) ∧ (2 ^ 53 - 1) * (2 ^ 1074 * 2 ^ 1074) ≤ 2 ^ 53 * (zR * zD) := by
  have hlt := d.toInt_lt
  have hk2 : k < 2 ^ 63 := by omega
  obtain ⟨zD, h1, h2, h3⟩ := own_l2dr h (by omega)
  have hM : (2 : Nat) ^ 64 ≤ 2 ^ 1074 := Nat.pow_le_pow_right (by omega) (by omega)
  have hy1 : 2 ^ 1074 ≤ zD := by
    generalize (2 : Nat) ^ 1074 = M at *
    have : 4096 * M ≤ k * M := Nat.mul_le_mul_right M hk
    omega
  have hy2 : zD ≤ 2 ^ 64 * 2 ^ 1074 := by
    generalize (2 : Nat) ^ 1074 = M at *
    have : k * M ≤ 2 ^ 63 * M := Nat.mul_le_mul_right M (by omega)
    omega
  have hpos : 0 < (2 : Nat) ^ 1074 := Nat.two_pow_pos _
  have hbig : 2 ^ 52 * zD ≤ 1 * 2 ^ 1074 * 2 ^ 1074 := by
    calc 2 ^ 52 * zD ≤ 2 ^ 52 * (2 ^ 64 * 2 ^ 1074) := Nat.mul_le_mul_left _ hy2
      _ = (2 ^ 52 * 2 ^ 64) * 2 ^ 1074 := (Nat.mul_assoc _ _ _).symm
      _ ≤ 2 ^ 1074 * 2 ^ 1074 := Nat.mul_le_mul_right _ (by rw [← Nat.pow_add]; exact Nat.pow_le_pow_right (by omega) (by omega))
      _ = 1 * 2 ^ 1074 * 2 ^ 1074 := by rw [Nat.one_mul]
  obtain ⟨zR, h4, h5, h6⟩ := own_ddivr own_one_nn h1 (by rw [Nat.one_mul]; exact hpos) (by omega) own_one_nn (by rw [Nat.one_mul]; exact Nat.mul_le_mul_left _ hy1) hbig
  rw [Nat.one_mul] at h5 h6
  exact ⟨zD, zR, h1, h4, h2, h3, h5, h6⟩
/-- the estimate is off by one at the most -/
theorem own_est {n d : Int64} {a k : Nat} (hn : n.toInt = a) (hd : d.toInt = k) (hk : 4096 ≤ k) :
    ∃ z, NN (Jvm.FP.dmul (Jvm.FP.l2d n) (Jvm.FP.ddiv Jvm.FP.dconst1 (Jvm.FP.l2d d))) z ∧ (a / k - 1) * 2 ^ 1074 ≤ z ∧ 2 * z ≤ (2 * (a / k) + 3) * 2 ^ 1074 := by
  have hlt := n.toInt_lt
  have ha : a < 2 ^ 63 := by omega
  obtain ⟨zD, zR, d1, r1, c1, c2, b1, b2⟩ := own_recip hd hk
  have hpos : 0 < (2 : Nat) ^ 1074 := Nat.two_pow_pos _
  have hQ1 : a / k * k ≤ a := Nat.div_mul_le_self a k
  have hQ2 : a < a / k * k + k := by have := Nat.lt_div_mul_add (a := a) (b := k) (by omega); omega
  have hQ : a / k < 2 ^ 51 := by
    have : a / k * 4096 ≤ a / k * k := Nat.mul_le_mul_left _ hk
    omega
  obtain ⟨zN, n1, a1, a2⟩ : ∃ zN, NN (Jvm.FP.l2d n) zN ∧ 2 ^ 53 * zN ≤ (2 ^ 53 + 1) * (a * 2 ^ 1074) ∧ (2 ^ 53 - 1) * (a * 2 ^ 1074) ≤ 2 ^ 53 * zN := by
    rcases Nat.eq_zero_or_pos a with h0 | h0
    · refine ⟨_, own_l2d hn (by omega), ?_, ?_⟩
      · rw [h0]; omega
      · rw [h0]; omega
    · exact own_l2dr hn h0
  have hb : 2 * (zN * zR) ≤ (2 * (a / k) + 3) * (2 ^ 1074 * 2 ^ 1074) ∧ (a / k - 1) * (2 ^ 1074 * 2 ^ 1074) ≤ zN * zR := by
    rcases Nat.lt_or_ge (2 ^ 53) k with h | h
    · exact own_bnd2 (by omega) ha hQ1 hQ2 hpos a1 a2 c1 c2 b1 b2
    · have e : zD = k * 2 ^ 1074 := d1.inj (own_l2d hd h)
      rw [e] at b1 b2
      refine own_bnd1 hk ha hQ1 hQ2 hpos a1 a2 ?_ ?_
      · refine Nat.le_of_mul_le_mul_right (c := 2 ^ 1074) ?_ hpos
        calc 2 ^ 53 * (zR * k) * 2 ^ 1074 = 2 ^ 53 * (zR * (k * 2 ^ 1074)) := by (try generalize (2 : Nat) ^ 1074 = A1); (try generalize (2 : Nat) ^ 1073 = A2); (try generalize (2 : Nat) ^ 1042 = A3); (try generalize (2 : Nat) ^ 2045 = A4); (try generalize (2 : Nat) ^ (0 - (-2148) : Int).toNat = A5); ac_rfl
          _ ≤ (2 ^ 53 + 1) * (2 ^ 1074 * 2 ^ 1074) := b1
          _ = (2 ^ 53 + 1) * 2 ^ 1074 * 2 ^ 1074 := (Nat.mul_assoc _ _ _).symm
      · refine Nat.le_of_mul_le_mul_right (c := 2 ^ 1074) ?_ hpos
        calc (2 ^ 53 - 1) * 2 ^ 1074 * 2 ^ 1074 = (2 ^ 53 - 1) * (2 ^ 1074 * 2 ^ 1074) := Nat.mul_assoc _ _ _
          _ ≤ 2 ^ 53 * (zR * (k * 2 ^ 1074)) := b2
          _ = 2 ^ 53 * (zR * k) * 2 ^ 1074 := by (try generalize (2 : Nat) ^ 1074 = A1); (try generalize (2 : Nat) ^ 1073 = A2); (try generalize (2 : Nat) ^ 1042 = A3); (try generalize (2 : Nat) ^ 2045 = A4); (try generalize (2 : Nat) ^ (0 - (-2148) : Int).toNat = A5); ac_rfl
  obtain ⟨V1, v1⟩ := own_nat (n := a / k - 1) (by omega)
  obtain ⟨V2, v2⟩ := own_rep (c := 2 * (a / k) + 3) (k := 1073) (by omega) (by omega)
  have e2 : (2 : Nat) ^ 1074 = 2 * 2 ^ 1073 := by rw [← Nat.pow_succ']
  have hle : zN * zR ≤ (2 * (a / k) + 3) * 2 ^ 1073 * 2 ^ 1074 := by
    refine Nat.le_of_mul_le_mul_left (c := 2) ?_ (by omega)
    calc 2 * (zN * zR) ≤ (2 * (a / k) + 3) * (2 ^ 1074 * 2 ^ 1074) := hb.1
      _ = (2 * (a / k) + 3) * (2 * 2 ^ 1073 * 2 ^ 1074) := by rw [← e2]
      _ = 2 * ((2 * (a / k) + 3) * 2 ^ 1073 * 2 ^ 1074) := by (try generalize (2 : Nat) ^ 1074 = A1); (try generalize (2 : Nat) ^ 1073 = A2); (try generalize (2 : Nat) ^ 1042 = A3); (try generalize (2 : Nat) ^ 2045 = A4); (try generalize (2 : Nat) ^ (0 - (-2148) : Int).toNat = A5); ac_rfl
  obtain ⟨z, hz, z1, z2⟩ := own_dmul n1 r1 v2 hle
  refine ⟨z, hz, z2 V1 _ v1 (by rw [Nat.mul_assoc]; exact hb.2), ?_⟩
  have := z1 V2 _ v2 hle
  calc 2 * z ≤ 2 * ((2 * (a / k) + 3) * 2 ^ 1073) := Nat.mul_le_mul_left 2 this
    _ = (2 * (a / k) + 3) * (2 * 2 ^ 1073) := by (try generalize (2 : Nat) ^ 1074 = A1); (try generalize (2 : Nat) ^ 1073 = A2); (try generalize (2 : Nat) ^ 1042 = A3); (try generalize (2 : Nat) ^ 2045 = A4); (try generalize (2 : Nat) ^ (0 - (-2148) : Int).toNat = A5); ac_rfl
    _ = (2 * (a / k) + 3) * 2 ^ 1074 := by rw [← e2]
/-- d2l of a number below 2^63 -/
theorem own_d2l {a : UInt64} {z : Nat} (h : NN a z) (hz : z / 2 ^ 1074 < 2 ^ 63) : (Jvm.FP.d2l a).toInt = ((z / 2 ^ 1074 : Nat) : Int) := by
  have k := d2l_val h.ne
  rw [h.sgn, h.zmag, own_one] at k
  show (Jvm.FP.Core.d2l a).toInt = _
  rw [k]
  generalize z / 2 ^ 1074 = y at *
  show max (-2 ^ 63) (min (2 ^ 63 - 1) (y : Int)) = y
  omega
theorem own_estQ {n d : Int64} (hn : 0 ≤ n.toInt) (hd : 4096 ≤ d.toInt) :
    let est := Jvm.FP.d2l (Jvm.FP.dmul (Jvm.FP.l2d n) (Jvm.FP.ddiv Jvm.FP.dconst1 (Jvm.FP.l2d d)))
    0 ≤ est.toInt ∧ (est.toInt = n.toInt / d.toInt - 1 ∨ est.toInt = n.toInt / d.toInt ∨ est.toInt = n.toInt / d.toInt + 1) := by
  intro est
  obtain ⟨a, ha⟩ := Int.eq_ofNat_of_zero_le hn
  obtain ⟨k, hk⟩ := Int.eq_ofNat_of_zero_le (show 0 ≤ d.toInt by omega)
  obtain ⟨z, h1, h2, h3⟩ := own_est ha hk (by omega)
  have hlt := n.toInt_lt
  have hpos : 0 < (2 : Nat) ^ 1074 := Nat.two_pow_pos _
  have hQ : a / k ≤ a := Nat.div_le_self a k
  have q1 : a / k - 1 ≤ z / 2 ^ 1074 := (Nat.le_div_iff_mul_le hpos).mpr h2
  have q2 : z / 2 ^ 1074 < a / k + 2 := by
    rw [Nat.div_lt_iff_lt_mul hpos]
    generalize (2 : Nat) ^ 1074 = M at *
    rw [Nat.add_mul] at h3 ⊢
    rw [Nat.mul_assoc] at h3
    omega
  have hk0 : 2 ≤ k := by omega
  have hQ' : a / k < 2 ^ 62 := by
    have : a / k * 2 ≤ a / k * k := Nat.mul_le_mul_left _ hk0
    have := Nat.div_mul_le_self a k
    omega
  have e : est.toInt = ((z / 2 ^ 1074 : Nat) : Int) := own_d2l h1 (by omega)
  rw [e, ha, hk]
  generalize z / 2 ^ 1074 = y at *
  have e2 : (a : Int) / (k : Int) = ((a / k : Nat) : Int) := (Int.natCast_ediv a k).symm
  rw [e2]
  generalize a / k = Q at *
  omega
end Quot
theorem own_fix {n d est : Int64} (hn : 0 ≤ n.toInt) (hd : 4096 ≤ d.toInt) (h0 : 0 ≤ est.toInt) (h : est.toInt = n.toInt / d.toInt - 1 ∨ est.toInt = n.toInt / d.toInt ∨ est.toInt = n.toInt / d.toInt + 1) :
    (n - est * d < 0 → est - 1 = n / d) ∧ (¬ n - est * d < 0 → n - est * d < d → est = n / d) ∧ (¬ n - est * d < 0 → ¬ n - est * d < d → est + 1 = n / d) := by
  have r1 := rng64 n
  have r2 := rng64 d
  have r3 := rng64 est
  have r4 := rng64 (n - est * d)
  have r5 := rng64 (est - 1)
  have r6 := rng64 (est + 1)
  have c1 := c_lsub n (est * d)
  have c2 := c_lmul est d
  have c3 := c_lsub est 1
  have c4 := c_ladd est 1
  have hq : (n / d).toInt = n.toInt / d.toInt := (c_ldiv n d d.toInt rfl (by intro e; rw [e] at hd; exact absurd hd (by decide))).1 hn
  have m1 := Int.mul_ediv_add_emod n.toInt d.toInt
  have m2 := Int.emod_nonneg n.toInt (show d.toInt ≠ 0 by omega)
  have m3 := Int.emod_lt_of_pos n.toInt (show 0 < d.toInt by omega)
  have hQ0 : 0 ≤ n.toInt / d.toInt := Int.ediv_nonneg hn (by omega)
  have hQn : n.toInt / d.toInt ≤ n.toInt := Int.ediv_le_self _ hn
  have hp0 : 0 ≤ est.toInt * d.toInt := Int.mul_nonneg h0 (by omega)
  rw [show (1 : Int64).toInt = 1 from by decide] at c3 c4
  generalize hr : n.toInt % d.toInt = r at *
  have hP : (est.toInt = n.toInt / d.toInt - 1 ∧ est.toInt * d.toInt = d.toInt * (n.toInt / d.toInt) - d.toInt) ∨ (est.toInt = n.toInt / d.toInt ∧ est.toInt * d.toInt = d.toInt * (n.toInt / d.toInt)) ∨ (est.toInt = n.toInt / d.toInt + 1 ∧ est.toInt * d.toInt = d.toInt * (n.toInt / d.toInt) + d.toInt) := by
    rcases h with h | h | h
    · left; exact ⟨h, by rw [h, Int.sub_mul, Int.one_mul, Int.mul_comm]⟩
    · right; left; exact ⟨h, by rw [h, Int.mul_comm]⟩
    · right; right; exact ⟨h, by rw [h, Int.add_mul, Int.one_mul, Int.mul_comm]⟩
  clear h
  simp only [Int64.lt_iff_toInt_lt, ← Int64.toInt_inj, hq, show (0 : Int64).toInt = 0 from by decide]
  generalize d.toInt * (n.toInt / d.toInt) = A at *
  generalize est.toInt * d.toInt = P at *
  generalize n.toInt / d.toInt = Q at *
  generalize (n - est * d).toInt = rest at *
  generalize (est * d).toInt = pr at *
  generalize (est - 1).toInt = em at *
  generalize (est + 1).toInt = ep at *
  have hrest : rest = n.toInt - P := by omega
  subst hrest
  omega

theorem d2_0 : decode prog_14_method_1_code 0 = .ok (.aload_n 0, 1) := by decide +kernel
theorem d2_1 : decode prog_14_method_1_code 1 = .ok (.invokespecial 1, 3) := by decide +kernel
theorem d2_4 : decode prog_14_method_1_code 4 = .ok (.lload_n 1, 1) := by decide +kernel
theorem d2_5 : decode prog_14_method_1_code 5 = .ok (.ldc2_w 9, 3) := by decide +kernel
theorem d2_8 : decode prog_14_method_1_code 8 = .ok (.lcmp, 1) := by decide +kernel
theorem d2_9 : decode prog_14_method_1_code 9 = .ok (.ifCond .ge 17, 3) := by decide +kernel
theorem d2_26 : decode prog_14_method_1_code 26 = .ok (.aload_n 0, 1) := by decide +kernel
theorem d2_27 : decode prog_14_method_1_code 27 = .ok (.lload_n 1, 1) := by decide +kernel
theorem d2_28 : decode prog_14_method_1_code 28 = .ok (.putfield 20, 3) := by decide +kernel
theorem d2_31 : decode prog_14_method_1_code 31 = .ok (.aload_n 0, 1) := by decide +kernel
theorem d2_32 : decode prog_14_method_1_code 32 = .ok (.dconst 1, 1) := by decide +kernel
theorem d2_33 : decode prog_14_method_1_code 33 = .ok (.lload_n 1, 1) := by decide +kernel
theorem d2_34 : decode prog_14_method_1_code 34 = .ok (.l2d, 1) := by decide +kernel
theorem d2_35 : decode prog_14_method_1_code 35 = .ok (.ddiv, 1) := by decide +kernel
theorem d2_36 : decode prog_14_method_1_code 36 = .ok (.putfield 24, 3) := by decide +kernel
theorem d2_39 : decode prog_14_method_1_code 39 = .ok (.return_, 1) := by decide +kernel
theorem pn2 : plainName "com/example/brisk_throttle/briskthrottle/Divisor" = true := by first | (simp [plainName, overriddenIn]; done) | decide +kernel
theorem ef2 (m : MethodId) (x0 : Addr) (x1 : Int64) : entryFrame m #[(.ref x0), (.long x1)] 3 = mkF m 0 #[.val (.ref x0), .val (.long x1), .second] [] := by first | (simp [entryFrame, mkF, argsToLocals, Value.category]; done) | rfl
def Q2 (Z : State) (b : Addr) (d : Int64) (h0 : Heap) (n0 : Nat) (v : Option Value) (h : Heap) (L : List Loc) : Prop := v = none ∧ Fr n0 L ∧ Keep h0 h [b] ∧ Exa Z h b "com/example/brisk_throttle/briskthrottle/Divisor" ∧ Fld Z h b "com/example/brisk_throttle/briskthrottle/Divisor" "divisor" "J" (.long d) ∧ Fld Z h b "com/example/brisk_throttle/briskthrottle/Divisor" "reciprocal" "D" (.double (FP.ddiv FP.dconst1 (FP.l2d d)))
set_option maxRecDepth 65536 in
set_option maxHeartbeats 40000000 in
theorem rm2 (l : Launch) (Z : State) (a0 : Array Value) (hw : ∀ d ∈ tables_1, d.before a0 Z = true) (ws : List Jvm.Cond) (b : Addr) (d : Int64) (h0 : Heap) (n0 : Nat) (Z0 : n0 ≤ h0.size) (F_divisor_b : Fld Z h0 b "com/example/brisk_throttle/briskthrottle/Divisor" "divisor" "J" (.long 0)) (F_reciprocal_b : Fld Z h0 b "com/example/brisk_throttle/briskthrottle/Divisor" "reciprocal" "D" (.double 0)) (E_b : Exa Z h0 b "com/example/brisk_throttle/briskthrottle/Divisor") (g_b : n0 ≤ b) (hd : ¬ d < (4096 : Int64)) (hnn : Jvm.Free.Fl.NoNaN64 (FP.ddiv FP.dconst1 (FP.l2d d))) :
    MetFree l (⟨"com/example/brisk_throttle/briskthrottle/Divisor", "<init>", "(J)V"⟩ : MethodName) (head1 (Jvm.Cond.code (⟨"com/example/brisk_throttle/briskthrottle/Divisor", "<init>", "(J)V"⟩ : MethodName) prog_14_method_1_code 3 none :: ws) ({ frames := 1, cells := 0, slots := 0, locals := 12 } : Room)) (fun aa U => aa = #[(.ref b), (.long d)] ∧ Z.Warmed39 U.vm ∧ U.heap = h0) (fun _ _ _ _ _ => True) (fun _ UU oo UU' => ∃ vv LL, oo = .returned vv ∧ Q2 Z b d h0 n0 vv UU'.heap LL ∧ FrameEnd UU oo UU' LL ({ frames := 1, cells := 0, slots := 0, locals := 12 } : Room).cells ({ frames := 1, cells := 0, slots := 0, locals := 12 } : Room).slots) := by
  refine MetFree.of_bodySF (plainFor_of_name pn2) hisR ?_
  intro p e s m args below meth c s₁ Bd hml0 hP hK
  obtain ⟨rfl, hZ, hh⟩ := hP
  have hx := Bd.exec
  have hby := Bd.bytes
  have hml : c.maxLocals = 3 := hml0
  have hown : s.vm.findClass "com/example/brisk_throttle/briskthrottle/Divisor" = some m.cls := findClass_of_methodNamed Bd.named
  have hnm := (name_of_methodNamed Bd.named Bd.method).1
  have X0 : Stand p l e ({ frames := 1, cells := 0, slots := 0, locals := 12 } : Room) s m #[(.ref b), (.long d)] below meth c s₁ [] 0 0 := Stand.of_body Bd
  have e0 : s₁.heap = h0 := by rw [← hh, Bd.state]; rfl
  have N0 := Fr.nil n0
  show Ends p e below (fun tt oo => ∃ vv LL, oo = .returned vv ∧ Q2 Z b d h0 n0 vv tt.heap LL ∧ FrameEnd s oo tt LL ({ frames := 1, cells := 0, slots := 0, locals := 12 } : Room).cells ({ frames := 1, cells := 0, slots := 0, locals := 12 } : Room).slots) (s₁.setTop (entryFrame m #[(.ref b), (.long d)] 3))
  refine Ends.pre (fun t k => castTop (ef2 m b d) k) ?_
  show Ends p e below _ (s₁.setTop (mkF m 0 #[.val (.ref b), .val (.long d), .second] []))
  have K0 := Keep.refl h0 [b]
  refine Ends.pre (fun tt kt => XS.aloadN X0.here hx rfl (hb hby d2_0) rfl rfl kt) ?_
  show Ends p e below _ (s₁.setTop (mkF m 1 #[.val (.ref b), .val (.long d), .second] [(.ref b)]))
  obtain ⟨T1, X1, e1, st1⟩ := initO X0 hx hZ hown (hw _ (List.mem_of_getElem? (i := 12) rfl)) (hw _ (List.mem_of_getElem? (i := 13) rfl)) (hw _ (List.mem_of_getElem? (i := 14) rfl)) e0 (g := (mkF m 1 #[.val (.ref b), .val (.long d), .second] [(.ref b)])) rfl (by rw [hml]; rfl) rfl (hb hby d2_1) (by decide) (W := 0) (by show 2 * 0 + _ ≤ _; exact Nat.le_of_eq rfl) (by decide)
  refine Ends.pre (fun tt kt => st1 _ kt) ?_
  show Ends p e below _ (T1.setTop (mkF m 4 #[.val (.ref b), .val (.long d), .second] []))
  refine Ends.pre (fun tt kt => XS.lloadN X1.here hx rfl (hb hby d2_4) rfl kt) ?_
  show Ends p e below _ (T1.setTop (mkF m 5 #[.val (.ref b), .val (.long d), .second] [(.long d)]))
  refine Ends.pre (fun tt kt => X1.ldc2Long hx hown (mvT hZ (hw _ (List.mem_of_getElem? (i := 15) rfl))) (g := (mkF m 5 #[.val (.ref b), .val (.long d), .second] [(.long d)])) rfl (hb hby d2_5) _ kt) ?_
  show Ends p e below _ (T1.setTop (mkF m 8 #[.val (.ref b), .val (.long d), .second] [(.long (4096 : Int64)), (.long d)]))
  refine Ends.pre (fun tt kt => XS.lcmp X1.here hx rfl (hb hby d2_8) rfl kt) ?_
  show Ends p e below _ (T1.setTop (mkF m 9 #[.val (.ref b), .val (.long d), .second] [(.int (lcmpW d (4096 : Int64)))]))
  refine Ends.pre (fun tt kt => XS.ifYes X1.here hx rfl (pc0 := 9) (pc' := 26) rfl (hb hby d2_9) rfl ((if0 _ _).trans (flt (mt (lw_lt _ _).mp hd)).2.1) (by decide) (by decide) kt) ?_
  show Ends p e below _ (T1.setTop (mkF m 26 #[.val (.ref b), .val (.long d), .second] []))
  refine Ends.pre (fun tt kt => XS.aloadN X1.here hx rfl (hb hby d2_26) rfl rfl kt) ?_
  show Ends p e below _ (T1.setTop (mkF m 27 #[.val (.ref b), .val (.long d), .second] [(.ref b)]))
  refine Ends.pre (fun tt kt => XS.lloadN X1.here hx rfl (hb hby d2_27) rfl kt) ?_
  show Ends p e below _ (T1.setTop (mkF m 28 #[.val (.ref b), .val (.long d), .second] [(.long d), (.ref b)]))
  obtain ⟨T2, h2, X2, e2, W2, st2⟩ := putF X1 hx hZ hown (host := "") (Or.inl (hw _ (List.mem_of_getElem? (i := 16) rfl))) Via.refl e1 F_divisor_b E_b (Or.inr ⟨(hw _ (List.mem_of_getElem? (i := 17) rfl)), rfl, hnm⟩) (hw _ (List.mem_of_getElem? (i := 7) rfl)) (ty := .long) (by decide) rfl rfl (g := (mkF m 28 #[.val (.ref b), .val (.long d), .second] [(.long d), (.ref b)])) rfl rfl (hb hby d2_28)
  have F_reciprocal_b := F_reciprocal_b.other W2 (Or.inr (slot_ne (Or.inr (hw _ (List.mem_of_getElem? (i := 19) rfl))) (Or.inr (hw _ (List.mem_of_getElem? (i := 17) rfl))) (by decide) (t := .double) (t' := .long) (by decide) (by decide)))
  have E_b := E_b.wr W2
  have K0 := K0.wr W2 (Or.inl (List.mem_of_getElem? (i := 0) rfl))
  have Z0 := Nat.le_trans Z0 (Keep.of_wr W2).1
  have F_divisor_b := F_divisor_b.same W2
  have N2 := Fr.snoc X2 N0 g_b
  refine Ends.pre (fun tt kt => st2 _ kt) ?_
  show Ends p e below _ (T2.setTop (mkF m 31 #[.val (.ref b), .val (.long d), .second] []))
  refine Ends.pre (fun tt kt => XS.aloadN X2.here hx rfl (hb hby d2_31) rfl rfl kt) ?_
  show Ends p e below _ (T2.setTop (mkF m 32 #[.val (.ref b), .val (.long d), .second] [(.ref b)]))
  refine Ends.pre (fun tt kt => XS.dconst1 X2.here hx rfl (hb hby d2_32) rfl kt) ?_
  show Ends p e below _ (T2.setTop (mkF m 33 #[.val (.ref b), .val (.long d), .second] [(.double FP.dconst1), (.ref b)]))
  refine Ends.pre (fun tt kt => XS.lloadN X2.here hx rfl (hb hby d2_33) rfl kt) ?_
  show Ends p e below _ (T2.setTop (mkF m 34 #[.val (.ref b), .val (.long d), .second] [(.long d), (.double FP.dconst1), (.ref b)]))
  refine Ends.pre (fun tt kt => XS.l2dS X2.here hx rfl (v := (FP.l2d d)) (hb hby d2_34) rfl rfl kt) ?_
  show Ends p e below _ (T2.setTop (mkF m 35 #[.val (.ref b), .val (.long d), .second] [(.double (FP.l2d d)), (.double FP.dconst1), (.ref b)]))
  refine Ends.pre (fun tt kt => XS.ddivS X2.here hx rfl (v := (FP.ddiv FP.dconst1 (FP.l2d d))) (hb hby d2_35) rfl hnn rfl kt) ?_
  show Ends p e below _ (T2.setTop (mkF m 36 #[.val (.ref b), .val (.long d), .second] [(.double (FP.ddiv FP.dconst1 (FP.l2d d))), (.ref b)]))
  obtain ⟨T3, h3, X3, e3, W3, st3⟩ := putF X2 hx hZ hown (host := "") (Or.inl (hw _ (List.mem_of_getElem? (i := 18) rfl))) Via.refl e2 F_reciprocal_b E_b (Or.inr ⟨(hw _ (List.mem_of_getElem? (i := 19) rfl)), rfl, hnm⟩) (hw _ (List.mem_of_getElem? (i := 7) rfl)) (ty := .double) (by decide) rfl rfl (g := (mkF m 36 #[.val (.ref b), .val (.long d), .second] [(.double (FP.ddiv FP.dconst1 (FP.l2d d))), (.ref b)])) rfl rfl (hb hby d2_36)
  have F_divisor_b := F_divisor_b.other W3 (Or.inr (slot_ne (Or.inr (hw _ (List.mem_of_getElem? (i := 17) rfl))) (Or.inr (hw _ (List.mem_of_getElem? (i := 19) rfl))) (by decide) (t := .long) (t' := .double) (by decide) (by decide)))
  have E_b := E_b.wr W3
  have K0 := K0.wr W3 (Or.inl (List.mem_of_getElem? (i := 0) rfl))
  have Z0 := Nat.le_trans Z0 (Keep.of_wr W3).1
  have F_reciprocal_b := F_reciprocal_b.same W3
  have N3 := Fr.snoc X3 N2 g_b
  refine Ends.pre (fun tt kt => st3 _ kt) ?_
  show Ends p e below _ (T3.setTop (mkF m 39 #[.val (.ref b), .val (.long d), .second] []))
  obtain ⟨fs, hr, hrun, hended, hW, hsame⟩ := X3.leave (v := none) (fun _ => rfl)
  refine ⟨_, _, X3.returnOut hx Bd.returns (hb hby d2_39) hr, hrun, hended, _, _, rfl, ?_, ⟨_, rfl⟩, hW, hsame.mono (by decide) (by decide)⟩
  show Q2 Z _ _ h0 n0 _ T3.heap _
  rw [e3]
  exact ⟨rfl, N3, K0, E_b, F_divisor_b, F_reciprocal_b⟩
theorem own_mulnn {n d : Int64} (hn : 0 ≤ n.toInt) (hd : 4096 ≤ d.toInt) : Jvm.Free.Fl.NoNaN64 (FP.dmul (FP.l2d n) (FP.ddiv FP.dconst1 (FP.l2d d))) := by
  obtain ⟨a, ha⟩ := Int.eq_ofNat_of_zero_le hn
  obtain ⟨k, hk⟩ := Int.eq_ofNat_of_zero_le (show 0 ≤ d.toInt by omega)
  obtain ⟨z, h1, -⟩ := own_est ha hk (by omega)
  exact h1.noNaN
theorem own_divnn {d : Int64} (hd : 4096 ≤ d.toInt) : Jvm.Free.Fl.NoNaN64 (FP.ddiv FP.dconst1 (FP.l2d d)) := by
  obtain ⟨k, hk⟩ := Int.eq_ofNat_of_zero_le (show 0 ≤ d.toInt by omega)
  obtain ⟨zD, zR, -, h1, -⟩ := own_recip hk (by omega)
  exact h1.noNaN
theorem own_nlt {d : Int64} (hd : 4096 ≤ d.toInt) : ¬ d < (4096 : Int64) := by
  rw [Int64.lt_iff_toInt_lt, show (4096 : Int64).toInt = 4096 from by decide]; omega
theorem own_nz {d : Int64} (hd : 4096 ≤ d.toInt) : d ≠ 0 := by
  rintro rfl; exact absurd hd (by decide)
theorem own_mask (q : Int64) : 0 ≤ (q &&& (9223372036854775807 : Int64)).toInt := by
  rw [c_maskL q 9223372036854775807 63 (by decide) (by decide)]; omega
theorem d4_0 : decode prog_14_method_3_code 0 = .ok (.lload_n 1, 1) := by decide +kernel
theorem d4_1 : decode prog_14_method_3_code 1 = .ok (.l2d, 1) := by decide +kernel
theorem d4_2 : decode prog_14_method_3_code 2 = .ok (.aload_n 0, 1) := by decide +kernel
theorem d4_3 : decode prog_14_method_3_code 3 = .ok (.getfield 24, 3) := by decide +kernel
theorem d4_6 : decode prog_14_method_3_code 6 = .ok (.dmul, 1) := by decide +kernel
theorem d4_7 : decode prog_14_method_3_code 7 = .ok (.d2l, 1) := by decide +kernel
theorem d4_8 : decode prog_14_method_3_code 8 = .ok (.lstore_n 3, 1) := by decide +kernel
theorem d4_9 : decode prog_14_method_3_code 9 = .ok (.lload_n 1, 1) := by decide +kernel
theorem d4_10 : decode prog_14_method_3_code 10 = .ok (.lload_n 3, 1) := by decide +kernel
theorem d4_11 : decode prog_14_method_3_code 11 = .ok (.aload_n 0, 1) := by decide +kernel
theorem d4_12 : decode prog_14_method_3_code 12 = .ok (.getfield 20, 3) := by decide +kernel
theorem d4_15 : decode prog_14_method_3_code 15 = .ok (.lmul, 1) := by decide +kernel
theorem d4_16 : decode prog_14_method_3_code 16 = .ok (.lsub, 1) := by decide +kernel
theorem d4_17 : decode prog_14_method_3_code 17 = .ok (.lstore 5, 2) := by decide +kernel
theorem d4_19 : decode prog_14_method_3_code 19 = .ok (.lload 5, 2) := by decide +kernel
theorem d4_21 : decode prog_14_method_3_code 21 = .ok (.lconst 0, 1) := by decide +kernel
theorem d4_22 : decode prog_14_method_3_code 22 = .ok (.lcmp, 1) := by decide +kernel
theorem d4_23 : decode prog_14_method_3_code 23 = .ok (.ifCond .ge 10, 3) := by decide +kernel
theorem d4_26 : decode prog_14_method_3_code 26 = .ok (.lload_n 3, 1) := by decide +kernel
theorem d4_27 : decode prog_14_method_3_code 27 = .ok (.lconst 1, 1) := by decide +kernel
theorem d4_28 : decode prog_14_method_3_code 28 = .ok (.lsub, 1) := by decide +kernel
theorem d4_29 : decode prog_14_method_3_code 29 = .ok (.lstore_n 3, 1) := by decide +kernel
theorem d4_30 : decode prog_14_method_3_code 30 = .ok (.goto 17, 3) := by decide +kernel
theorem d4_33 : decode prog_14_method_3_code 33 = .ok (.lload 5, 2) := by decide +kernel
theorem d4_35 : decode prog_14_method_3_code 35 = .ok (.aload_n 0, 1) := by decide +kernel
theorem d4_36 : decode prog_14_method_3_code 36 = .ok (.getfield 20, 3) := by decide +kernel
theorem d4_39 : decode prog_14_method_3_code 39 = .ok (.lcmp, 1) := by decide +kernel
theorem d4_40 : decode prog_14_method_3_code 40 = .ok (.ifCond .lt 7, 3) := by decide +kernel
theorem d4_43 : decode prog_14_method_3_code 43 = .ok (.lload_n 3, 1) := by decide +kernel
theorem d4_44 : decode prog_14_method_3_code 44 = .ok (.lconst 1, 1) := by decide +kernel
theorem d4_45 : decode prog_14_method_3_code 45 = .ok (.ladd, 1) := by decide +kernel
theorem d4_46 : decode prog_14_method_3_code 46 = .ok (.lstore_n 3, 1) := by decide +kernel
theorem d4_47 : decode prog_14_method_3_code 47 = .ok (.lload_n 3, 1) := by decide +kernel
theorem d4_48 : decode prog_14_method_3_code 48 = .ok (.lreturn, 1) := by decide +kernel
theorem pn4 : plainName "com/example/brisk_throttle/briskthrottle/Divisor" = true := by first | (simp [plainName, overriddenIn]; done) | decide +kernel
theorem ef4 (m : MethodId) (x0 : Addr) (x1 : Int64) : entryFrame m #[(.ref x0), (.long x1)] 7 = mkF m 0 #[.val (.ref x0), .val (.long x1), .second, .unset, .unset, .unset, .unset] [] := by first | (simp [entryFrame, mkF, argsToLocals, Value.category]; done) | rfl
def Q4 (Z : State) (b : Addr) (n : Int64) (d : Int64) (h0 : Heap) (n0 : Nat) (v : Option Value) (h : Heap) (L : List Loc) : Prop := v = some (.long (n / d)) ∧ Fr n0 L ∧ h = h0
set_option maxRecDepth 65536 in
set_option maxHeartbeats 40000000 in
theorem rm4 (l : Launch) (Z : State) (a0 : Array Value) (hw : ∀ d ∈ tables_1, d.before a0 Z = true) (ws : List Jvm.Cond) (b : Addr) (n : Int64) (d : Int64) (h0 : Heap) (n0 : Nat) (Z0 : n0 ≤ h0.size) (F1 : Fld Z h0 b "com/example/brisk_throttle/briskthrottle/Divisor" "divisor" "J" (.long d)) (F2 : Fld Z h0 b "com/example/brisk_throttle/briskthrottle/Divisor" "reciprocal" "D" (.double (FP.ddiv FP.dconst1 (FP.l2d d)))) (hn : 0 ≤ n.toInt) (hd : 4096 ≤ d.toInt) :
    MetFree l (⟨"com/example/brisk_throttle/briskthrottle/Divisor", "quotient", "(J)J"⟩ : MethodName) (head1 (Jvm.Cond.code (⟨"com/example/brisk_throttle/briskthrottle/Divisor", "quotient", "(J)J"⟩ : MethodName) prog_14_method_3_code 7 (some .long) :: ws) ({ frames := 0, cells := 0, slots := 0, locals := 0 } : Room)) (fun aa U => aa = #[(.ref b), (.long n)] ∧ Z.Warmed39 U.vm ∧ U.heap = h0) (fun _ _ _ _ _ => True) (fun _ UU oo UU' => ∃ vv LL, oo = .returned vv ∧ Q4 Z b n d h0 n0 vv UU'.heap LL ∧ FrameEnd UU oo UU' LL ({ frames := 0, cells := 0, slots := 0, locals := 0 } : Room).cells ({ frames := 0, cells := 0, slots := 0, locals := 0 } : Room).slots) := by
  refine MetFree.of_bodySF (plainFor_of_name pn4) hisR ?_
  intro p e s m args below meth c s₁ Bd hml0 hP hK
  obtain ⟨rfl, hZ, hh⟩ := hP
  have hx := Bd.exec
  have hby := Bd.bytes
  have hml : c.maxLocals = 7 := hml0
  have hown : s.vm.findClass "com/example/brisk_throttle/briskthrottle/Divisor" = some m.cls := findClass_of_methodNamed Bd.named
  have hnm := (name_of_methodNamed Bd.named Bd.method).1
  have X0 : Stand p l e ({ frames := 0, cells := 0, slots := 0, locals := 0 } : Room) s m #[(.ref b), (.long n)] below meth c s₁ [] 0 0 := Stand.of_body Bd
  have e0 : s₁.heap = h0 := by rw [← hh, Bd.state]; rfl
  have N0 := Fr.nil n0
  show Ends p e below (fun tt oo => ∃ vv LL, oo = .returned vv ∧ Q4 Z b n d h0 n0 vv tt.heap LL ∧ FrameEnd s oo tt LL ({ frames := 0, cells := 0, slots := 0, locals := 0 } : Room).cells ({ frames := 0, cells := 0, slots := 0, locals := 0 } : Room).slots) (s₁.setTop (entryFrame m #[(.ref b), (.long n)] 7))
  refine Ends.pre (fun t k => castTop (ef4 m b n) k) ?_
  show Ends p e below _ (s₁.setTop (mkF m 0 #[.val (.ref b), .val (.long n), .second, .unset, .unset, .unset, .unset] []))
  obtain ⟨est, hest⟩ : ∃ z, z = FP.d2l (FP.dmul (FP.l2d n) (FP.ddiv FP.dconst1 (FP.l2d d))) := ⟨_, rfl⟩
  have hE := own_estQ hn hd
  rw [← hest] at hE
  have hfx := own_fix hn hd hE.1 hE.2
  refine Ends.pre (fun tt kt => XS.lloadN X0.here hx rfl (hb hby d4_0) rfl kt) ?_
  show Ends p e below _ (s₁.setTop (mkF m 1 #[.val (.ref b), .val (.long n), .second, .unset, .unset, .unset, .unset] [(.long n)]))
  refine Ends.pre (fun tt kt => XS.l2dS X0.here hx rfl (v := (FP.l2d n)) (hb hby d4_1) rfl rfl kt) ?_
  show Ends p e below _ (s₁.setTop (mkF m 2 #[.val (.ref b), .val (.long n), .second, .unset, .unset, .unset, .unset] [(.double (FP.l2d n))]))
  refine Ends.pre (fun tt kt => XS.aloadN X0.here hx rfl (hb hby d4_2) rfl rfl kt) ?_
  show Ends p e below _ (s₁.setTop (mkF m 3 #[.val (.ref b), .val (.long n), .second, .unset, .unset, .unset, .unset] [(.ref b), (.double (FP.l2d n))]))
  obtain ⟨T4, X4, e4, st4⟩ := getF X0 hx hZ hown (host := "") (Or.inl (hw _ (List.mem_of_getElem? (i := 18) rfl))) Via.refl e0 F2 (g := (mkF m 3 #[.val (.ref b), .val (.long n), .second, .unset, .unset, .unset, .unset] [(.ref b), (.double (FP.l2d n))])) rfl rfl (hb hby d4_3)
  refine Ends.pre (fun tt kt => st4 _ kt) ?_
  show Ends p e below _ (T4.setTop (mkF m 6 #[.val (.ref b), .val (.long n), .second, .unset, .unset, .unset, .unset] [(.double (FP.ddiv FP.dconst1 (FP.l2d d))), (.double (FP.l2d n))]))
  refine Ends.pre (fun tt kt => XS.dmulS X4.here hx rfl (v := (FP.dmul (FP.l2d n) (FP.ddiv FP.dconst1 (FP.l2d d)))) (hb hby d4_6) rfl (own_mulnn hn hd) rfl kt) ?_
  show Ends p e below _ (T4.setTop (mkF m 7 #[.val (.ref b), .val (.long n), .second, .unset, .unset, .unset, .unset] [(.double (FP.dmul (FP.l2d n) (FP.ddiv FP.dconst1 (FP.l2d d))))]))
  refine Ends.pre (fun tt kt => XS.d2lS X4.here hx rfl (v := est) (hb hby d4_7) rfl hest.symm kt) ?_
  show Ends p e below _ (T4.setTop (mkF m 8 #[.val (.ref b), .val (.long n), .second, .unset, .unset, .unset, .unset] [(.long est)]))
  refine Ends.pre (fun tt kt => XS.lstoreN X4.here hx rfl (hb hby d4_8) rfl (l' := #[.val (.ref b), .val (.long n), .second, .val (.long est), .second, .unset, .unset]) rfl kt) ?_
  show Ends p e below _ (T4.setTop (mkF m 9 #[.val (.ref b), .val (.long n), .second, .val (.long est), .second, .unset, .unset] []))
  refine Ends.pre (fun tt kt => XS.lloadN X4.here hx rfl (hb hby d4_9) rfl kt) ?_
  show Ends p e below _ (T4.setTop (mkF m 10 #[.val (.ref b), .val (.long n), .second, .val (.long est), .second, .unset, .unset] [(.long n)]))
  refine Ends.pre (fun tt kt => XS.lloadN X4.here hx rfl (hb hby d4_10) rfl kt) ?_
  show Ends p e below _ (T4.setTop (mkF m 11 #[.val (.ref b), .val (.long n), .second, .val (.long est), .second, .unset, .unset] [(.long est), (.long n)]))
  refine Ends.pre (fun tt kt => XS.aloadN X4.here hx rfl (hb hby d4_11) rfl rfl kt) ?_
  show Ends p e below _ (T4.setTop (mkF m 12 #[.val (.ref b), .val (.long n), .second, .val (.long est), .second, .unset, .unset] [(.ref b), (.long est), (.long n)]))
  obtain ⟨T5, X5, e5, st5⟩ := getF X4 hx hZ hown (host := "") (Or.inl (hw _ (List.mem_of_getElem? (i := 16) rfl))) Via.refl e4 F1 (g := (mkF m 12 #[.val (.ref b), .val (.long n), .second, .val (.long est), .second, .unset, .unset] [(.ref b), (.long est), (.long n)])) rfl rfl (hb hby d4_12)
  refine Ends.pre (fun tt kt => st5 _ kt) ?_
  show Ends p e below _ (T5.setTop (mkF m 15 #[.val (.ref b), .val (.long n), .second, .val (.long est), .second, .unset, .unset] [(.long d), (.long est), (.long n)]))
  refine Ends.pre (fun tt kt => XS.lmul X5.here hx rfl (hb hby d4_15) rfl kt) ?_
  show Ends p e below _ (T5.setTop (mkF m 16 #[.val (.ref b), .val (.long n), .second, .val (.long est), .second, .unset, .unset] [(.long (est * d)), (.long n)]))
  refine Ends.pre (fun tt kt => XS.lsub X5.here hx rfl (hb hby d4_16) rfl kt) ?_
  show Ends p e below _ (T5.setTop (mkF m 17 #[.val (.ref b), .val (.long n), .second, .val (.long est), .second, .unset, .unset] [(.long (n - (est * d)))]))
  refine Ends.pre (fun tt kt => XS.lstore X5.here hx rfl (hb hby d4_17) rfl (l' := #[.val (.ref b), .val (.long n), .second, .val (.long est), .second, .val (.long (n - (est * d))), .second]) rfl kt) ?_
  show Ends p e below _ (T5.setTop (mkF m 19 #[.val (.ref b), .val (.long n), .second, .val (.long est), .second, .val (.long (n - (est * d))), .second] []))
  refine Ends.pre (fun tt kt => XS.lload X5.here hx rfl (hb hby d4_19) rfl kt) ?_
  show Ends p e below _ (T5.setTop (mkF m 21 #[.val (.ref b), .val (.long n), .second, .val (.long est), .second, .val (.long (n - (est * d))), .second] [(.long (n - (est * d)))]))
  refine Ends.pre (fun tt kt => XS.lconst X5.here hx rfl (hb hby d4_21) kt) ?_
  show Ends p e below _ (T5.setTop (mkF m 22 #[.val (.ref b), .val (.long n), .second, .val (.long est), .second, .val (.long (n - (est * d))), .second] [(.long (0 : Int64)), (.long (n - (est * d)))]))
  refine Ends.pre (fun tt kt => XS.lcmp X5.here hx rfl (hb hby d4_22) rfl kt) ?_
  show Ends p e below _ (T5.setTop (mkF m 23 #[.val (.ref b), .val (.long n), .second, .val (.long est), .second, .val (.long (n - (est * d))), .second] [(.int (lcmpW (n - (est * d)) (0 : Int64)))]))
  by_cases h1 : (n - (est * d)) < (0 : Int64)
  ·
    refine Ends.pre (fun tt kt => XS.ifNo X5.here hx rfl (hb hby d4_23) rfl ((if0 _ _).trans (tlt ((lw_lt _ _).mpr h1)).2.1) kt) ?_
    show Ends p e below _ (T5.setTop (mkF m 26 #[.val (.ref b), .val (.long n), .second, .val (.long est), .second, .val (.long (n - (est * d))), .second] []))
    refine Ends.pre (fun tt kt => XS.lloadN X5.here hx rfl (hb hby d4_26) rfl kt) ?_
    show Ends p e below _ (T5.setTop (mkF m 27 #[.val (.ref b), .val (.long n), .second, .val (.long est), .second, .val (.long (n - (est * d))), .second] [(.long est)]))
    refine Ends.pre (fun tt kt => XS.lconst X5.here hx rfl (hb hby d4_27) kt) ?_
    show Ends p e below _ (T5.setTop (mkF m 28 #[.val (.ref b), .val (.long n), .second, .val (.long est), .second, .val (.long (n - (est * d))), .second] [(.long (1 : Int64)), (.long est)]))
    refine Ends.pre (fun tt kt => XS.lsub X5.here hx rfl (hb hby d4_28) rfl kt) ?_
    show Ends p e below _ (T5.setTop (mkF m 29 #[.val (.ref b), .val (.long n), .second, .val (.long est), .second, .val (.long (n - (est * d))), .second] [(.long (est - (1 : Int64)))]))
    refine Ends.pre (fun tt kt => XS.lstoreN X5.here hx rfl (hb hby d4_29) rfl (l' := #[.val (.ref b), .val (.long n), .second, .val (.long (est - (1 : Int64))), .second, .val (.long (n - (est * d))), .second]) rfl kt) ?_
    show Ends p e below _ (T5.setTop (mkF m 30 #[.val (.ref b), .val (.long n), .second, .val (.long (est - (1 : Int64))), .second, .val (.long (n - (est * d))), .second] []))
    refine Ends.pre (fun tt kt => XS.goto X5.here hx rfl (pc0 := 30) (pc' := 47) rfl (hb hby d4_30) (by decide) (by decide) kt) ?_
    show Ends p e below _ (T5.setTop (mkF m 47 #[.val (.ref b), .val (.long n), .second, .val (.long (est - (1 : Int64))), .second, .val (.long (n - (est * d))), .second] []))
    refine Ends.pre (fun tt kt => XS.lloadN X5.here hx rfl (hb hby d4_47) rfl kt) ?_
    show Ends p e below _ (T5.setTop (mkF m 48 #[.val (.ref b), .val (.long n), .second, .val (.long (est - (1 : Int64))), .second, .val (.long (n - (est * d))), .second] [(.long (est - (1 : Int64)))]))
    obtain ⟨fs, hr, hrun, hended, hW, hsame⟩ := X5.leave (v := some (.long (est - (1 : Int64)))) (fun h => by rw [Bd.returns] at h; cases h)
    refine ⟨_, _, retOut X5 hx Bd.returns rfl (Or.inr (Or.inl ⟨rfl, rfl, _, rfl⟩)) (hb hby d4_48) hr, hrun, hended, _, _, rfl, ?_, ⟨_, rfl⟩, hW, hsame.mono (by decide) (by decide)⟩
    show Q4 Z _ _ _ h0 n0 _ T5.heap _
    rw [e5]
    exact ⟨by rw [hfx.1 h1], N0, rfl⟩
  ·
    refine Ends.pre (fun tt kt => XS.ifYes X5.here hx rfl (pc0 := 23) (pc' := 33) rfl (hb hby d4_23) rfl ((if0 _ _).trans (flt (mt (lw_lt _ _).mp h1)).2.1) (by decide) (by decide) kt) ?_
    show Ends p e below _ (T5.setTop (mkF m 33 #[.val (.ref b), .val (.long n), .second, .val (.long est), .second, .val (.long (n - (est * d))), .second] []))
    refine Ends.pre (fun tt kt => XS.lload X5.here hx rfl (hb hby d4_33) rfl kt) ?_
    show Ends p e below _ (T5.setTop (mkF m 35 #[.val (.ref b), .val (.long n), .second, .val (.long est), .second, .val (.long (n - (est * d))), .second] [(.long (n - (est * d)))]))
    refine Ends.pre (fun tt kt => XS.aloadN X5.here hx rfl (hb hby d4_35) rfl rfl kt) ?_
    show Ends p e below _ (T5.setTop (mkF m 36 #[.val (.ref b), .val (.long n), .second, .val (.long est), .second, .val (.long (n - (est * d))), .second] [(.ref b), (.long (n - (est * d)))]))
    obtain ⟨T6, X6, e6, st6⟩ := getF X5 hx hZ hown (host := "") (Or.inl (hw _ (List.mem_of_getElem? (i := 16) rfl))) Via.refl e5 F1 (g := (mkF m 36 #[.val (.ref b), .val (.long n), .second, .val (.long est), .second, .val (.long (n - (est * d))), .second] [(.ref b), (.long (n - (est * d)))])) rfl rfl (hb hby d4_36)
    refine Ends.pre (fun tt kt => st6 _ kt) ?_
    show Ends p e below _ (T6.setTop (mkF m 39 #[.val (.ref b), .val (.long n), .second, .val (.long est), .second, .val (.long (n - (est * d))), .second] [(.long d), (.long (n - (est * d)))]))
    refine Ends.pre (fun tt kt => XS.lcmp X6.here hx rfl (hb hby d4_39) rfl kt) ?_
    show Ends p e below _ (T6.setTop (mkF m 40 #[.val (.ref b), .val (.long n), .second, .val (.long est), .second, .val (.long (n - (est * d))), .second] [(.int (lcmpW (n - (est * d)) d))]))
    by_cases h2 : (n - (est * d)) < d
    ·
      refine Ends.pre (fun tt kt => XS.ifYes X6.here hx rfl (pc0 := 40) (pc' := 47) rfl (hb hby d4_40) rfl ((if0 _ _).trans (tlt ((lw_lt _ _).mpr h2)).1) (by decide) (by decide) kt) ?_
      show Ends p e below _ (T6.setTop (mkF m 47 #[.val (.ref b), .val (.long n), .second, .val (.long est), .second, .val (.long (n - (est * d))), .second] []))
      refine Ends.pre (fun tt kt => XS.lloadN X6.here hx rfl (hb hby d4_47) rfl kt) ?_
      show Ends p e below _ (T6.setTop (mkF m 48 #[.val (.ref b), .val (.long n), .second, .val (.long est), .second, .val (.long (n - (est * d))), .second] [(.long est)]))
      obtain ⟨fs, hr, hrun, hended, hW, hsame⟩ := X6.leave (v := some (.long est)) (fun h => by rw [Bd.returns] at h; cases h)
      refine ⟨_, _, retOut X6 hx Bd.returns rfl (Or.inr (Or.inl ⟨rfl, rfl, _, rfl⟩)) (hb hby d4_48) hr, hrun, hended, _, _, rfl, ?_, ⟨_, rfl⟩, hW, hsame.mono (by decide) (by decide)⟩
      show Q4 Z _ _ _ h0 n0 _ T6.heap _
      rw [e6]
      exact ⟨by rw [← hfx.2.1 h1 h2], N0, rfl⟩
    ·
      refine Ends.pre (fun tt kt => XS.ifNo X6.here hx rfl (hb hby d4_40) rfl ((if0 _ _).trans (flt (mt (lw_lt _ _).mp h2)).1) kt) ?_
      show Ends p e below _ (T6.setTop (mkF m 43 #[.val (.ref b), .val (.long n), .second, .val (.long est), .second, .val (.long (n - (est * d))), .second] []))
      refine Ends.pre (fun tt kt => XS.lloadN X6.here hx rfl (hb hby d4_43) rfl kt) ?_
      show Ends p e below _ (T6.setTop (mkF m 44 #[.val (.ref b), .val (.long n), .second, .val (.long est), .second, .val (.long (n - (est * d))), .second] [(.long est)]))
      refine Ends.pre (fun tt kt => XS.lconst X6.here hx rfl (hb hby d4_44) kt) ?_
      show Ends p e below _ (T6.setTop (mkF m 45 #[.val (.ref b), .val (.long n), .second, .val (.long est), .second, .val (.long (n - (est * d))), .second] [(.long (1 : Int64)), (.long est)]))
      refine Ends.pre (fun tt kt => XS.ladd X6.here hx rfl (hb hby d4_45) rfl kt) ?_
      show Ends p e below _ (T6.setTop (mkF m 46 #[.val (.ref b), .val (.long n), .second, .val (.long est), .second, .val (.long (n - (est * d))), .second] [(.long (est + (1 : Int64)))]))
      refine Ends.pre (fun tt kt => XS.lstoreN X6.here hx rfl (hb hby d4_46) rfl (l' := #[.val (.ref b), .val (.long n), .second, .val (.long (est + (1 : Int64))), .second, .val (.long (n - (est * d))), .second]) rfl kt) ?_
      show Ends p e below _ (T6.setTop (mkF m 47 #[.val (.ref b), .val (.long n), .second, .val (.long (est + (1 : Int64))), .second, .val (.long (n - (est * d))), .second] []))
      refine Ends.pre (fun tt kt => XS.lloadN X6.here hx rfl (hb hby d4_47) rfl kt) ?_
      show Ends p e below _ (T6.setTop (mkF m 48 #[.val (.ref b), .val (.long n), .second, .val (.long (est + (1 : Int64))), .second, .val (.long (n - (est * d))), .second] [(.long (est + (1 : Int64)))]))
      obtain ⟨fs, hr, hrun, hended, hW, hsame⟩ := X6.leave (v := some (.long (est + (1 : Int64)))) (fun h => by rw [Bd.returns] at h; cases h)
      refine ⟨_, _, retOut X6 hx Bd.returns rfl (Or.inr (Or.inl ⟨rfl, rfl, _, rfl⟩)) (hb hby d4_48) hr, hrun, hended, _, _, rfl, ?_, ⟨_, rfl⟩, hW, hsame.mono (by decide) (by decide)⟩
      show Q4 Z _ _ _ h0 n0 _ T6.heap _
      rw [e6]
      exact ⟨by rw [hfx.2.2 h1 h2], N0, rfl⟩
theorem d1_0 : decode jdk_29_method_66_code 0 = .ok (.lload_n 0, 1) := by decide +kernel
theorem d1_1 : decode jdk_29_method_66_code 1 = .ok (.lload_n 2, 1) := by decide +kernel
theorem d1_2 : decode jdk_29_method_66_code 2 = .ok (.lcmp, 1) := by decide +kernel
theorem d1_3 : decode jdk_29_method_66_code 3 = .ok (.ifCond .lt 7, 3) := by decide +kernel
theorem d1_6 : decode jdk_29_method_66_code 6 = .ok (.lload_n 0, 1) := by decide +kernel
theorem d1_7 : decode jdk_29_method_66_code 7 = .ok (.goto 4, 3) := by decide +kernel
theorem d1_10 : decode jdk_29_method_66_code 10 = .ok (.lload_n 2, 1) := by decide +kernel
theorem d1_11 : decode jdk_29_method_66_code 11 = .ok (.lreturn, 1) := by decide +kernel
theorem ef1 (m : MethodId) (x0 : Int64) (x1 : Int64) : entryFrame m #[(.long x0), (.long x1)] 4 = mkF m 0 #[.val (.long x0), .second, .val (.long x1), .second] [] := by first | (simp [entryFrame, mkF, argsToLocals, Value.category]; done) | rfl
def Q1 (Z : State) (x : Int64) (y : Int64) (h0 : Heap) (n0 : Nat) (v : Option Value) (h : Heap) (L : List Loc) : Prop := v = some (.long (if x < y then y else x)) ∧ Fr n0 L ∧ h = h0
set_option maxRecDepth 65536 in
set_option maxHeartbeats 40000000 in
theorem rm1 (l : Launch) (Z : State) (a0 : Array Value) (hw : ∀ d ∈ tables_1, d.before a0 Z = true) (ws : List Jvm.Cond) (x : Int64) (y : Int64) (h0 : Heap) (n0 : Nat) (Z0 : n0 ≤ h0.size) :
    MetFree l (⟨"java/lang/Math", "max", "(JJ)J"⟩ : MethodName) (head1 (Jvm.Cond.code (⟨"java/lang/Math", "max", "(JJ)J"⟩ : MethodName) jdk_29_method_66_code 4 (some .long) :: ws) ({ frames := 0, cells := 0, slots := 0, locals := 0 } : Room)) (fun aa U => aa = #[(.long x), (.long y)] ∧ Z.Warmed39 U.vm ∧ U.heap = h0) (fun _ _ _ _ _ => True) (fun _ UU oo UU' => ∃ vv LL, oo = .returned vv ∧ Q1 Z x y h0 n0 vv UU'.heap LL ∧ FrameEnd UU oo UU' LL ({ frames := 0, cells := 0, slots := 0, locals := 0 } : Room).cells ({ frames := 0, cells := 0, slots := 0, locals := 0 } : Room).slots) := by
  refine MetFree.of_bodySF (Jvm.Free.JP.mathPlain rfl (by decide +kernel)) hisR ?_
  intro p e s m args below meth c s₁ Bd hml0 hP hK
  obtain ⟨rfl, hZ, hh⟩ := hP
  have hx := Bd.exec
  have hby := Bd.bytes
  have hml : c.maxLocals = 4 := hml0
  have hown : s.vm.findClass "java/lang/Math" = some m.cls := findClass_of_methodNamed Bd.named
  have hnm := (name_of_methodNamed Bd.named Bd.method).1
  have X0 : Stand p l e ({ frames := 0, cells := 0, slots := 0, locals := 0 } : Room) s m #[(.long x), (.long y)] below meth c s₁ [] 0 0 := Stand.of_body Bd
  have e0 : s₁.heap = h0 := by rw [← hh, Bd.state]; rfl
  have N0 := Fr.nil n0
  show Ends p e below (fun tt oo => ∃ vv LL, oo = .returned vv ∧ Q1 Z x y h0 n0 vv tt.heap LL ∧ FrameEnd s oo tt LL ({ frames := 0, cells := 0, slots := 0, locals := 0 } : Room).cells ({ frames := 0, cells := 0, slots := 0, locals := 0 } : Room).slots) (s₁.setTop (entryFrame m #[(.long x), (.long y)] 4))
  refine Ends.pre (fun t k => castTop (ef1 m x y) k) ?_
  show Ends p e below _ (s₁.setTop (mkF m 0 #[.val (.long x), .second, .val (.long y), .second] []))
  refine Ends.pre (fun tt kt => XS.lloadN X0.here hx rfl (hb hby d1_0) rfl kt) ?_
  show Ends p e below _ (s₁.setTop (mkF m 1 #[.val (.long x), .second, .val (.long y), .second] [(.long x)]))
  refine Ends.pre (fun tt kt => XS.lloadN X0.here hx rfl (hb hby d1_1) rfl kt) ?_
  show Ends p e below _ (s₁.setTop (mkF m 2 #[.val (.long x), .second, .val (.long y), .second] [(.long y), (.long x)]))
  refine Ends.pre (fun tt kt => XS.lcmp X0.here hx rfl (hb hby d1_2) rfl kt) ?_
  show Ends p e below _ (s₁.setTop (mkF m 3 #[.val (.long x), .second, .val (.long y), .second] [(.int (lcmpW x y))]))
  by_cases h1 : x < y
  ·
    refine Ends.pre (fun tt kt => XS.ifYes X0.here hx rfl (pc0 := 3) (pc' := 10) rfl (hb hby d1_3) rfl ((if0 _ _).trans (tlt ((lw_lt _ _).mpr h1)).1) (by decide) (by decide) kt) ?_
    show Ends p e below _ (s₁.setTop (mkF m 10 #[.val (.long x), .second, .val (.long y), .second] []))
    refine Ends.pre (fun tt kt => XS.lloadN X0.here hx rfl (hb hby d1_10) rfl kt) ?_
    show Ends p e below _ (s₁.setTop (mkF m 11 #[.val (.long x), .second, .val (.long y), .second] [(.long y)]))
    obtain ⟨fs, hr, hrun, hended, hW, hsame⟩ := X0.leave (v := some (.long y)) (fun h => by rw [Bd.returns] at h; cases h)
    refine ⟨_, _, retOut X0 hx Bd.returns rfl (Or.inr (Or.inl ⟨rfl, rfl, _, rfl⟩)) (hb hby d1_11) hr, hrun, hended, _, _, rfl, ?_, ⟨_, rfl⟩, hW, hsame.mono (by decide) (by decide)⟩
    show Q1 Z _ _ h0 n0 _ s₁.heap _
    rw [e0]
    exact ⟨by rw [if_pos h1], N0, rfl⟩
  ·
    refine Ends.pre (fun tt kt => XS.ifNo X0.here hx rfl (hb hby d1_3) rfl ((if0 _ _).trans (flt (mt (lw_lt _ _).mp h1)).1) kt) ?_
    show Ends p e below _ (s₁.setTop (mkF m 6 #[.val (.long x), .second, .val (.long y), .second] []))
    refine Ends.pre (fun tt kt => XS.lloadN X0.here hx rfl (hb hby d1_6) rfl kt) ?_
    show Ends p e below _ (s₁.setTop (mkF m 7 #[.val (.long x), .second, .val (.long y), .second] [(.long x)]))
    refine Ends.pre (fun tt kt => XS.goto X0.here hx rfl (pc0 := 7) (pc' := 11) rfl (hb hby d1_7) (by decide) (by decide) kt) ?_
    show Ends p e below _ (s₁.setTop (mkF m 11 #[.val (.long x), .second, .val (.long y), .second] [(.long x)]))
    obtain ⟨fs, hr, hrun, hended, hW, hsame⟩ := X0.leave (v := some (.long x)) (fun h => by rw [Bd.returns] at h; cases h)
    refine ⟨_, _, retOut X0 hx Bd.returns rfl (Or.inr (Or.inl ⟨rfl, rfl, _, rfl⟩)) (hb hby d1_11) hr, hrun, hended, _, _, rfl, ?_, ⟨_, rfl⟩, hW, hsame.mono (by decide) (by decide)⟩
    show Q1 Z _ _ h0 n0 _ s₁.heap _
    rw [e0]
    exact ⟨by rw [if_neg h1], N0, rfl⟩
theorem own_dd {q dd : Int64} (h : dd = if q < (4096 : Int64) then (4096 : Int64) else q) : 4096 ≤ dd.toInt := by
  rw [h]; split
  · decide
  · rename_i k; rw [Int64.lt_iff_toInt_lt, show (4096 : Int64).toInt = 4096 from by decide] at k; omega
theorem pd0_0 : parseMethodDescriptor "(JJ)J" = some ⟨[.long, .long], some .long⟩ := by decide +kernel
theorem pd0_1 : parseMethodDescriptor "(J)V" = some ⟨[.long], none⟩ := by decide +kernel
theorem pd0_2 : parseMethodDescriptor "(J)J" = some ⟨[.long], some .long⟩ := by decide +kernel
theorem pn0 : plainName "com/example/brisk_throttle/briskthrottle/DivisorQuotientPinLaw" = true := by first | (simp [plainName, overriddenIn]; done) | decide +kernel
theorem ef0 (m : MethodId) (x0 : Int64) (x1 : Int64) : entryFrame m #[(.long x0), (.long x1)] maxLocals = mkF m 0 #[.val (.long x0), .second, .val (.long x1), .second, .unset, .unset, .unset, .unset, .unset] [] := by first | (simp [entryFrame, mkF, argsToLocals, Value.category, maxLocals]; done) | rfl
def Q0 (Z : State) (q1 : Int64) (q2 : Int64) (h0 : Heap) (n0 : Nat) (v : Option Value) (h : Heap) (L : List Loc) : Prop := v = some (.int 1) ∧ Fr n0 L
set_option maxRecDepth 65536 in
set_option maxHeartbeats 40000000 in
theorem rm0 (l : Launch) (Z : State) (a0 : Array Value) (hw : ∀ d ∈ tables_1, d.before a0 Z = true) (ws : List Jvm.Cond) (q1 : Int64) (q2 : Int64) (h0 : Heap) (n0 : Nat) (Z0 : n0 ≤ h0.size) :
    MetFree l x (head1 (Jvm.Cond.code x code maxLocals ret :: ws) room_1) (fun aa U => aa = #[(.long q1), (.long q2)] ∧ Z.Warmed39 U.vm ∧ U.heap = h0) (fun _ _ _ _ _ => True) (fun _ UU oo UU' => ∃ vv LL, oo = .returned vv ∧ Q0 Z q1 q2 h0 n0 vv UU'.heap LL ∧ FrameEnd UU oo UU' LL room_1.cells room_1.slots) := by
  refine MetFree.of_bodySF (plainFor_of_name pn0) hisR ?_
  intro p e s m args below meth c s₁ Bd hml0 hP hK
  obtain ⟨rfl, hZ, hh⟩ := hP
  have hx := Bd.exec
  have hby := Bd.bytes
  have hml : c.maxLocals = 9 := hml0
  have hown : s.vm.findClass "com/example/brisk_throttle/briskthrottle/DivisorQuotientPinLaw" = some m.cls := findClass_of_methodNamed Bd.named
  have hnm := (name_of_methodNamed Bd.named Bd.method).1
  have X0 : Stand p l e room_1 s m #[(.long q1), (.long q2)] below meth c s₁ [] 0 0 := Stand.of_body Bd
  have e0 : s₁.heap = h0 := by rw [← hh, Bd.state]; rfl
  have N0 := Fr.nil n0
  show Ends p e below (fun tt oo => ∃ vv LL, oo = .returned vv ∧ Q0 Z q1 q2 h0 n0 vv tt.heap LL ∧ FrameEnd s oo tt LL room_1.cells room_1.slots) (s₁.setTop (entryFrame m #[(.long q1), (.long q2)] maxLocals))
  refine Ends.pre (fun t k => castTop (ef0 m q1 q2) k) ?_
  show Ends p e below _ (s₁.setTop (mkF m 0 #[.val (.long q1), .second, .val (.long q2), .second, .unset, .unset, .unset, .unset, .unset] []))
  refine Ends.pre (fun tt kt => XS.lloadN X0.here hx rfl (hb hby at_0) rfl kt) ?_
  show Ends p e below _ (s₁.setTop (mkF m 1 #[.val (.long q1), .second, .val (.long q2), .second, .unset, .unset, .unset, .unset, .unset] [(.long q1)]))
  refine Ends.pre (fun tt kt => X0.ldc2Long hx hown (mvT hZ (hw _ (List.mem_of_getElem? (i := 0) rfl))) (g := (mkF m 1 #[.val (.long q1), .second, .val (.long q2), .second, .unset, .unset, .unset, .unset, .unset] [(.long q1)])) rfl (hb hby at_1) _ kt) ?_
  show Ends p e below _ (s₁.setTop (mkF m 4 #[.val (.long q1), .second, .val (.long q2), .second, .unset, .unset, .unset, .unset, .unset] [(.long (9223372036854775807 : Int64)), (.long q1)]))
  refine Ends.pre (fun tt kt => XS.land X0.here hx rfl (hb hby at_4) rfl kt) ?_
  show Ends p e below _ (s₁.setTop (mkF m 5 #[.val (.long q1), .second, .val (.long q2), .second, .unset, .unset, .unset, .unset, .unset] [(.long (q1 &&& (9223372036854775807 : Int64)))]))
  obtain ⟨n, hnn⟩ : ∃ z, z = (q1 &&& (9223372036854775807 : Int64)) := ⟨_, rfl⟩
  rw [← hnn]
  show Ends p e below _ (s₁.setTop (mkF m 5 #[.val (.long q1), .second, .val (.long q2), .second, .unset, .unset, .unset, .unset, .unset] [(.long n)]))
  have hn : 0 ≤ n.toInt := by rw [hnn]; exact own_mask q1
  refine Ends.pre (fun tt kt => XS.lstore X0.here hx rfl (hb hby at_5) rfl (l' := #[.val (.long q1), .second, .val (.long q2), .second, .val (.long n), .second, .unset, .unset, .unset]) rfl kt) ?_
  show Ends p e below _ (s₁.setTop (mkF m 7 #[.val (.long q1), .second, .val (.long q2), .second, .val (.long n), .second, .unset, .unset, .unset] []))
  refine Ends.pre (fun tt kt => XS.lloadN X0.here hx rfl (hb hby at_7) rfl kt) ?_
  show Ends p e below _ (s₁.setTop (mkF m 8 #[.val (.long q1), .second, .val (.long q2), .second, .val (.long n), .second, .unset, .unset, .unset] [(.long q2)]))
  refine Ends.pre (fun tt kt => X0.ldc2Long hx hown (mvT hZ (hw _ (List.mem_of_getElem? (i := 0) rfl))) (g := (mkF m 8 #[.val (.long q1), .second, .val (.long q2), .second, .val (.long n), .second, .unset, .unset, .unset] [(.long q2)])) rfl (hb hby at_8) _ kt) ?_
  show Ends p e below _ (s₁.setTop (mkF m 11 #[.val (.long q1), .second, .val (.long q2), .second, .val (.long n), .second, .unset, .unset, .unset] [(.long (9223372036854775807 : Int64)), (.long q2)]))
  refine Ends.pre (fun tt kt => XS.land X0.here hx rfl (hb hby at_11) rfl kt) ?_
  show Ends p e below _ (s₁.setTop (mkF m 12 #[.val (.long q1), .second, .val (.long q2), .second, .val (.long n), .second, .unset, .unset, .unset] [(.long (q2 &&& (9223372036854775807 : Int64)))]))
  refine Ends.pre (fun tt kt => X0.ldc2Long hx hown (mvT hZ (hw _ (List.mem_of_getElem? (i := 1) rfl))) (g := (mkF m 12 #[.val (.long q1), .second, .val (.long q2), .second, .val (.long n), .second, .unset, .unset, .unset] [(.long (q2 &&& (9223372036854775807 : Int64)))])) rfl (hb hby at_12) _ kt) ?_
  show Ends p e below _ (s₁.setTop (mkF m 15 #[.val (.long q1), .second, .val (.long q2), .second, .val (.long n), .second, .unset, .unset, .unset] [(.long (4096 : Int64)), (.long (q2 &&& (9223372036854775807 : Int64)))]))
  obtain ⟨_, _, ⟨T7, L7, k7, n7⟩, -, X7, ⟨Lc7, hQ7, l7, y7, z7⟩, st7⟩ := Jvm.LawKit.callS X0 hx (y := (⟨"java/lang/Math", "max", "(JJ)J"⟩ : MethodName)) hown (mvT hZ (hw _ (List.mem_of_getElem? (i := 2) rfl))) (mvT hZ (hw _ (List.mem_of_getElem? (i := 3) rfl))) (mvT hZ (hw _ (List.mem_of_getElem? (i := 4) rfl))) (mvT hZ (hw _ (List.mem_of_getElem? (i := 5) rfl))) (by decide) (backOf (W := 0) (rm1 l Z a0 hw [] (q2 &&& (9223372036854775807 : Int64)) (4096 : Int64) h0 n0 Z0) hZ (hw _ (List.mem_of_getElem? (i := 5) rfl)) (hw _ (List.mem_of_getElem? (i := 4) rfl)) (by decide) (by decide)) (g := (mkF m 15 #[.val (.long q1), .second, .val (.long q2), .second, .val (.long n), .second, .unset, .unset, .unset] [(.long (4096 : Int64)), (.long (q2 &&& (9223372036854775807 : Int64)))])) rfl (by rw [hml]; rfl) (argsL := [(.long (q2 &&& (9223372036854775807 : Int64))), (.long (4096 : Int64))]) (rest := []) (lenOf pd0_0 rfl) rfl (by show 2 * 0 + _ ≤ _; exact Nat.le_of_eq rfl) (hb hby at_15) (fun _ _ => ⟨rfl, e0, (show (0 : Nat) + (0 : Nat) ≤ _ from by decide), (show (0 : Nat) + (0 : Nat) ≤ _ from by decide)⟩)
  dsimp only [Pt.U, Pt.locs, Pt.cells, Pt.slots] at X7 l7 y7 z7 st7 hQ7
  subst l7 y7 z7
  obtain ⟨rfl, N7q, e7⟩ := hQ7
  have N7 := Fr.app N0 N7q
  refine Ends.pre (fun tt kt => st7 _ kt) ?_
  show Ends p e below _ (T7.setTop (mkF m 18 #[.val (.long q1), .second, .val (.long q2), .second, .val (.long n), .second, .unset, .unset, .unset] [(.long (if (q2 &&& (9223372036854775807 : Int64)) < (4096 : Int64) then (4096 : Int64) else (q2 &&& (9223372036854775807 : Int64))))]))
  obtain ⟨dd, hdd⟩ : ∃ z, z = (if (q2 &&& (9223372036854775807 : Int64)) < (4096 : Int64) then (4096 : Int64) else (q2 &&& (9223372036854775807 : Int64))) := ⟨_, rfl⟩
  rw [← hdd]
  show Ends p e below _ (T7.setTop (mkF m 18 #[.val (.long q1), .second, .val (.long q2), .second, .val (.long n), .second, .unset, .unset, .unset] [(.long dd)]))
  have hd : 4096 ≤ dd.toInt := own_dd hdd
  refine Ends.pre (fun tt kt => XS.lstore X7.here hx rfl (hb hby at_18) rfl (l' := #[.val (.long q1), .second, .val (.long q2), .second, .val (.long n), .second, .val (.long dd), .second, .unset]) rfl kt) ?_
  show Ends p e below _ (T7.setTop (mkF m 20 #[.val (.long q1), .second, .val (.long q2), .second, .val (.long n), .second, .val (.long dd), .second, .unset] []))
  obtain ⟨T8, h8, X8, e8, E8, A8, D8, -, st8⟩ := newO X7 hx hZ hown (hw _ (List.mem_of_getElem? (i := 6) rfl)) (hw _ (List.mem_of_getElem? (i := 7) rfl)) (hw _ (List.mem_of_getElem? (i := 8) rfl)) e7 (g := (mkF m 20 #[.val (.long q1), .second, .val (.long q2), .second, .val (.long n), .second, .val (.long dd), .second, .unset] [])) rfl (hb hby at_20) (by decide) (by decide)
  obtain ⟨b8, g8⟩ : ∃ z, z = h0.size := ⟨_, rfl⟩
  rw [← g8] at A8 D8 st8
  have g_b8 : n0 ≤ b8 := Nat.le_trans Z0 (Nat.le_of_eq g8.symm)
  have Z0 := Nat.le_trans Z0 E8.1
  have F_divisor_b8 : Fld Z h8 b8 "com/example/brisk_throttle/briskthrottle/Divisor" "divisor" "J" (.long (0 : Int64)) := D8 (Or.inr (hw _ (List.mem_of_getElem? (i := 17) rfl))) (ty := .long) (by decide)
  have F_reciprocal_b8 : Fld Z h8 b8 "com/example/brisk_throttle/briskthrottle/Divisor" "reciprocal" "D" (.double (0 : UInt64)) := D8 (Or.inr (hw _ (List.mem_of_getElem? (i := 19) rfl))) (ty := .double) (by decide)
  have E_b8 := A8
  refine Ends.pre (fun tt kt => st8 _ kt) ?_
  show Ends p e below _ (T8.setTop (mkF m 23 #[.val (.long q1), .second, .val (.long q2), .second, .val (.long n), .second, .val (.long dd), .second, .unset] [(.ref b8)]))
  refine Ends.pre (fun tt kt => XS.dup X8.here hx rfl (hb hby at_23) rfl rfl kt) ?_
  show Ends p e below _ (T8.setTop (mkF m 24 #[.val (.long q1), .second, .val (.long q2), .second, .val (.long n), .second, .val (.long dd), .second, .unset] [(.ref b8), (.ref b8)]))
  refine Ends.pre (fun tt kt => XS.lload X8.here hx rfl (hb hby at_24) rfl kt) ?_
  show Ends p e below _ (T8.setTop (mkF m 26 #[.val (.long q1), .second, .val (.long q2), .second, .val (.long n), .second, .val (.long dd), .second, .unset] [(.long dd), (.ref b8), (.ref b8)]))
  obtain ⟨_, _, ⟨T9, L9, k9, n9⟩, -, X9, ⟨Lc9, hQ9, l9, y9, z9⟩, st9⟩ := X8.specialBack hx (y := (⟨"com/example/brisk_throttle/briskthrottle/Divisor", "<init>", "(J)V"⟩ : MethodName)) rfl hown (mvT hZ (hw _ (List.mem_of_getElem? (i := 9) rfl))) (mvT hZ (hw _ (List.mem_of_getElem? (i := 10) rfl))) (mvT hZ (hw _ (List.mem_of_getElem? (i := 11) rfl))) (by decide) (backOf (W := 1) (rm2 l Z a0 hw [] b8 dd h8 n0 Z0 F_divisor_b8 F_reciprocal_b8 E_b8 g_b8 (own_nlt hd) (own_divnn hd)) hZ (hw _ (List.mem_of_getElem? (i := 11) rfl)) (hw _ (List.mem_of_getElem? (i := 8) rfl)) (by decide) (by decide)) (g := (mkF m 26 #[.val (.long q1), .second, .val (.long q2), .second, .val (.long n), .second, .val (.long dd), .second, .unset] [(.long dd), (.ref b8), (.ref b8)])) rfl (by rw [hml]; rfl) (Steps.refl _) (a := b8) (argsL := [(.long dd)]) (rest := [(.ref b8)]) (lenOf pd0_1 rfl) rfl (by show 2 * 0 + _ ≤ _; exact Nat.le_of_eq rfl) (hb hby at_26) (fun _ _ => ⟨rfl, e8, (show (1 : Nat) + (0 : Nat) ≤ _ from by decide), (show (2 : Nat) + (0 : Nat) ≤ _ from by decide)⟩)
  dsimp only [Pt.U, Pt.locs, Pt.cells, Pt.slots] at X9 l9 y9 z9 st9 hQ9
  subst l9 y9 z9
  obtain ⟨rfl, N9q, K9, G9_0, G9_1, G9_2⟩ := hQ9
  have Z0 := Nat.le_trans Z0 K9.1
  have E_b8 := G9_0
  have F_divisor_b8 := G9_1
  have F_reciprocal_b8 := G9_2
  have N9 := Fr.app N7 N9q
  refine Ends.pre (fun tt kt => st9.trans kt) ?_
  show Ends p e below _ (T9.setTop (mkF m 29 #[.val (.long q1), .second, .val (.long q2), .second, .val (.long n), .second, .val (.long dd), .second, .unset] [(.ref b8)]))
  refine Ends.pre (fun tt kt => XS.astore X9.here hx rfl (hb hby at_29) rfl rfl (l' := #[.val (.long q1), .second, .val (.long q2), .second, .val (.long n), .second, .val (.long dd), .second, .val (.ref b8)]) rfl kt) ?_
  show Ends p e below _ (T9.setTop (mkF m 31 #[.val (.long q1), .second, .val (.long q2), .second, .val (.long n), .second, .val (.long dd), .second, .val (.ref b8)] []))
  refine Ends.pre (fun tt kt => XS.aload X9.here hx rfl (hb hby at_31) rfl rfl kt) ?_
  show Ends p e below _ (T9.setTop (mkF m 33 #[.val (.long q1), .second, .val (.long q2), .second, .val (.long n), .second, .val (.long dd), .second, .val (.ref b8)] [(.ref b8)]))
  refine Ends.pre (fun tt kt => XS.lload X9.here hx rfl (hb hby at_33) rfl kt) ?_
  show Ends p e below _ (T9.setTop (mkF m 35 #[.val (.long q1), .second, .val (.long q2), .second, .val (.long n), .second, .val (.long dd), .second, .val (.ref b8)] [(.long n), (.ref b8)]))
  obtain ⟨cq10, kq10, q10a, q10b, q10c⟩ := isOf hZ rfl E_b8
  obtain ⟨_, _, ⟨T10, L10, k10, n10⟩, -, X10, ⟨Lc10, hQ10, l10, y10, z10⟩, st10⟩ := X9.virtualBack hx (y := (⟨"com/example/brisk_throttle/briskthrottle/Divisor", "quotient", "(J)J"⟩ : MethodName)) (z := (⟨"com/example/brisk_throttle/briskthrottle/Divisor", "quotient", "(J)J"⟩ : MethodName)) hown (mvT hZ (hw _ (List.mem_of_getElem? (i := 20) rfl))) (mvT hZ (hw _ (List.mem_of_getElem? (i := 21) rfl))) (notFace_of_selects (args := #[]) (mvT hZ (hw _ (List.mem_of_getElem? (i := 23) rfl)))) (mvT hZ (hw _ (List.mem_of_getElem? (i := 23) rfl))) (mvT hZ (hw _ (List.mem_of_getElem? (i := 22) rfl))) (by decide) (backOf (W := 0) (rm4 l Z a0 hw [] b8 n dd T9.heap n0 Z0 F_divisor_b8 F_reciprocal_b8 hn hd) hZ (hw _ (List.mem_of_getElem? (i := 24) rfl)) (hw _ (List.mem_of_getElem? (i := 8) rfl)) (by decide) (by decide)) q10a q10c (g := (mkF m 35 #[.val (.long q1), .second, .val (.long q2), .second, .val (.long n), .second, .val (.long dd), .second, .val (.ref b8)] [(.long n), (.ref b8)])) rfl (by rw [hml]; rfl) (Steps.refl _) (argsL := [(.long n)]) (rest := []) (lenOf pd0_2 rfl) rfl (by show 2 * 0 + _ ≤ _; exact Nat.le_of_eq rfl) (hb hby at_35) (fun _ _ => ⟨rfl, rfl, (show (1 : Nat) + (0 : Nat) ≤ _ from by decide), (show (2 : Nat) + (0 : Nat) ≤ _ from by decide)⟩)
  dsimp only [Pt.U, Pt.locs, Pt.cells, Pt.slots] at X10 l10 y10 z10 st10 hQ10
  subst l10 y10 z10
  obtain ⟨rfl, N10q, e10⟩ := hQ10
  have N10 := Fr.app N9 N10q
  refine Ends.pre (fun tt kt => st10.trans kt) ?_
  show Ends p e below _ (T10.setTop (mkF m 38 #[.val (.long q1), .second, .val (.long q2), .second, .val (.long n), .second, .val (.long dd), .second, .val (.ref b8)] [(.long (n / dd))]))
  refine Ends.pre (fun tt kt => XS.lload X10.here hx rfl (hb hby at_38) rfl kt) ?_
  show Ends p e below _ (T10.setTop (mkF m 40 #[.val (.long q1), .second, .val (.long q2), .second, .val (.long n), .second, .val (.long dd), .second, .val (.ref b8)] [(.long n), (.long (n / dd))]))
  refine Ends.pre (fun tt kt => XS.lload X10.here hx rfl (hb hby at_40) rfl kt) ?_
  show Ends p e below _ (T10.setTop (mkF m 42 #[.val (.long q1), .second, .val (.long q2), .second, .val (.long n), .second, .val (.long dd), .second, .val (.ref b8)] [(.long dd), (.long n), (.long (n / dd))]))
  refine Ends.pre (fun tt kt => XS.ldiv X10.here hx rfl (hb hby at_42) rfl (own_nz hd) kt) ?_
  show Ends p e below _ (T10.setTop (mkF m 43 #[.val (.long q1), .second, .val (.long q2), .second, .val (.long n), .second, .val (.long dd), .second, .val (.ref b8)] [(.long (n / dd)), (.long (n / dd))]))
  refine Ends.pre (fun tt kt => XS.lcmp X10.here hx rfl (hb hby at_43) rfl kt) ?_
  show Ends p e below _ (T10.setTop (mkF m 44 #[.val (.long q1), .second, .val (.long q2), .second, .val (.long n), .second, .val (.long dd), .second, .val (.ref b8)] [(.int (lcmpW (n / dd) (n / dd)))]))
  refine Ends.pre (fun tt kt => XS.ifNo X10.here hx rfl (hb hby at_44) rfl ((if0 _ _).trans (teq ((lw_eq _ _).mpr rfl)).2) kt) ?_
  show Ends p e below _ (T10.setTop (mkF m 47 #[.val (.long q1), .second, .val (.long q2), .second, .val (.long n), .second, .val (.long dd), .second, .val (.ref b8)] []))
  refine Ends.pre (fun tt kt => XS.iconst X10.here hx rfl (hb hby at_47) kt) ?_
  show Ends p e below _ (T10.setTop (mkF m 48 #[.val (.long q1), .second, .val (.long q2), .second, .val (.long n), .second, .val (.long dd), .second, .val (.ref b8)] [(.int (1 : Int32))]))
  refine Ends.pre (fun tt kt => XS.goto X10.here hx rfl (pc0 := 48) (pc' := 52) rfl (hb hby at_48) (by decide) (by decide) kt) ?_
  show Ends p e below _ (T10.setTop (mkF m 52 #[.val (.long q1), .second, .val (.long q2), .second, .val (.long n), .second, .val (.long dd), .second, .val (.ref b8)] [(.int (1 : Int32))]))
  obtain ⟨fs, hr, hrun, hended, hW, hsame⟩ := X10.leave (v := some (.int (1 : Int32))) (fun h => by rw [Bd.returns] at h; cases h)
  refine ⟨_, _, retN X10 hx (t := .boolean) Bd.returns (by simp) (hb hby at_52) hr, hrun, hended, _, _, rfl, ?_, ⟨_, rfl⟩, hW, hsame.mono (by decide) (by decide)⟩
  show Q0 Z _ _ h0 n0 _ T10.heap _
  rw [e10]
  exact ⟨rfl, N10⟩
set_option maxRecDepth 65536 in
set_option maxHeartbeats 40000000 in
theorem comes_1 {Post : Tables → Env → Array Value → State → Outcome → State → Prop} (hpost : ∀ tb e args s v u, (limb_1_1.after args s (.returned v) u = true ∧ limb_1_2.after args s (.returned v) u = true ∧ True) → FrameEnd s (.returned v) u (Jvm.fieldLocs frame_1_writes args s ++ Jvm.arrayLocs frame_1_arrays args s ++ Jvm.staticLocs frame_1_statics s) 16 128 → Post tb e args s (.returned v) u) :
    ArmFor flags0 classFile x code maxLocals ret World_1 tables_1 room_1 Calls_1 rest_1 Pre_1 Post := by
  intro l hfl _ _ p e ha hc hk s m args below hf hA hF happ hP
  obtain ⟨hcalls, hrest, hpre⟩ := hP
  obtain ⟨-, -, -, hnamed, -, -, -, hat⟩ := (Spec.applies_iff hf).mp happ
  obtain ⟨hg, hn⟩ := and_e (Cond.before_iff.mp (show (Jvm.Cond.and given_1 narrow_1).before args s = true from hpre))
  obtain ⟨gc, gg⟩ := and_e hg
  obtain ⟨ga0, gb0⟩ := and_e gg
  obtain ⟨w0, w1, rfl⟩ : ∃ w0 w1 : Value, args = #[w0, w1] := by
    have hs : args.size = 2 := by simpa [Cond.value, given_1] using gc
    obtain ⟨L⟩ := args
    match L, hs with
    | [w0, w1], _ => exact ⟨w0, w1, rfl⟩
  have hw := fun d (hd : d ∈ tables_1) => atoms_spec (ws := Jvm.Cond.code x code maxLocals ret :: tables_1) hat d (List.mem_cons_of_mem _ hd)
  obtain ⟨i0, ei0⟩ := isL_v ga0
  obtain rfl : w0 = (.long i0) := Option.some.inj ei0
  obtain ⟨i1, ei1⟩ := isL_v gb0
  obtain rfl : w1 = (.long i1) := Option.some.inj ei1
  obtain ⟨n, o, h1, h2, h3, _, L, rfl, ⟨rfl, N⟩, hq⟩ := rm0 l s _ hw tables_1 i0 i1 s.heap s.heap.size (Nat.le_refl _)  p e ha hc hk s m _ below hf ((Spec.applies_iff_loose hf).mp happ).1 ⟨rfl, State.Warmed39.refl s, rfl⟩ trivial
  refine ⟨n, _, h1, h2, h3, hpost _ _ _ _ _ _ ⟨Cond.after_iff.mpr rfl, Cond.after_iff.mpr (eq_i res_at (Term.int_eval (1)) rfl), trivial⟩ ⟨hq.1, hq.2.1, (hq.2.2.sift fun y hy => Or.inr (N y hy)).mono (by decide) (by decide)⟩⟩
theorem main_1_1 : Claimed_1_1 := comes_1 fun _ _ _ _ _ _ h hF => ⟨h.1, hF⟩
theorem main_1_2 : Claimed_1_2 := comes_1 fun _ _ _ _ _ _ h hF => ⟨h.2.1, hF⟩
end Jvm.Pilot.@@N@@
namespace Jvm.Pilot.@@N@@
open Jvm Jvm.ClassFile Sem Op Lib Jvm.Free Jvm.Stand Jvm.Pilot.@@N@@.Jvm.D
/-! MADE BY PROGRAM (witnessworld.py) out of the Statement's table words and the real class files: 10 classes; the members and pool entries that the words name. The judged class is class 1, her method 1. -/
namespace start1
open Jvm.ClassFile
def u (s : String) : CpInfo := .utf8 (stringToUtf16 s)
/-- a pool by its gaps: so many unusable entries, then the entry; so many at the end -/
def gap : Nat → List CpInfo → List CpInfo
  | 0, r => r
  | n + 1, r => .unusable :: gap n r
def poolList (es : List (Nat × CpInfo)) (last : Nat) : List CpInfo := es.foldr (fun e r => gap e.1 (e.2 :: r)) (gap last [])
def pool (es : List (Nat × CpInfo)) (last : Nat) : Array CpInfo := ⟨poolList es last⟩
def fileOf (pool : Array CpInfo) (this : Nat) (attrs : Array Attribute := #[]) (ms : Array MethodInfo := #[]) (fl : Nat := 33) (sup : Nat := 0) (ifs : Array Nat := #[]) (fds : Array FieldInfo := #[]) : ClassFile where
  minorVersion := 0
  majorVersion := 65
  constantPool := pool
  accessFlags := fl
  thisClass := this
  superClass := sup
  interfaces := ifs
  fields := fds
  methods := ms
  attributes := attrs
def plain (name : String) (sup : Option ClassId) : Class where
  name := name
  kind := .ordinary
  loader := none
  accessFlags := 33
  super := sup
  interfaces := #[]
  cf := none
  fields := #[]
  methods := #[]
  instanceTypes := #[]
  staticTypes := #[]
  resolved := #[]
  callSites := []
  init := .initialized
  statics := none
  mirror := none

def pool0 : Array CpInfo := pool [(5, u "<init>"), (0, u "()V"), (1, .class_ 10), (1, u "java/lang/Object")] 113

def k0c0 : Code := { maxStack := 0, maxLocals := 1, code := object_method_1_code, exceptionTable := #[], attributes := #[] }
def k0m0 : Method := { name := "<init>", desc := "()V", sig := { parameters := [], returnType := none }, accessFlags := 1, code := some k0c0 }
/-- java/lang/Object -/
def k0 : Class := { plain "java/lang/Object" none with
  accessFlags := 33
  interfaces := #[]
  cf := some (fileOf pool0 8 #[] #[{ accessFlags := 1, nameIndex := 5, descriptorIndex := 6, attributes := #[] }] 33 0 #[] #[])
  fields := #[]
  methods := #[k0m0]
  instanceTypes := #[]
  staticTypes := #[]
  resolved := Array.replicate 124 none
  statics := none }

def pool1 : Array CpInfo := pool [(2, .class_ 4), (1, u "java/lang/Object"), (0, u "<init>"), (0, u "()V"), (2, .long 9223372036854775807), (1, .class_ 12), (0, u "com/example/brisk_throttle/briskthrottle/Divisor"), (0, .long 4096), (1, .methodref 16 17), (0, .class_ 18), (0, .nameAndType 19 20), (0, u "java/lang/Math"), (0, u "max"), (0, u "(JJ)J"), (0, .methodref 11 22), (0, .nameAndType 5 23), (0, u "(J)V"), (0, .methodref 11 25), (0, .nameAndType 26 27), (0, u "quotient"), (0, u "(J)J"), (0, .class_ 29), (0, u "com/example/brisk_throttle/briskthrottle/DivisorQuotientPinLaw"), (2, u "law"), (0, u "(JJ)Z")] 3

def k1m0 : Method := { name := "<init>", desc := "()V", sig := { parameters := [], returnType := none }, accessFlags := 2, code := none }
def k1c1 : Code := { maxStack := 6, maxLocals := 9, code := code, exceptionTable := #[], attributes := #[] }
def k1m1 : Method := { name := "law", desc := "(JJ)Z", sig := { parameters := [.long, .long], returnType := some .boolean }, accessFlags := 9, code := some k1c1 }
/-- com/example/brisk_throttle/briskthrottle/DivisorQuotientPinLaw -/
def k1 : Class := { plain "com/example/brisk_throttle/briskthrottle/DivisorQuotientPinLaw" (some 0) with
  accessFlags := 49
  interfaces := #[]
  cf := some (fileOf pool1 28 #[] #[{ accessFlags := 2, nameIndex := 5, descriptorIndex := 6, attributes := #[] }, { accessFlags := 9, nameIndex := 32, descriptorIndex := 33, attributes := #[] }] 49 2 #[] #[])
  fields := #[]
  methods := #[k1m0, k1m1]
  instanceTypes := #[]
  staticTypes := #[]
  resolved := Array.replicate 37 none
  statics := none }

def pool2 : Array CpInfo := pool [(1, .class_ 2), (0, u "java/lang/Math"), (1, .class_ 6), (1, u "java/lang/Object"), (0, u "<init>"), (0, u "()V"), (89, .class_ 100), (1, u "java/lang/Math$RandomNumberGeneratorHolder"), (20, u "(JJ)J"), (50, u "negativeZeroFloatBits"), (0, u "J"), (2, u "negativeZeroDoubleBits"), (21, u "max"), (46, u "$assertionsDisabled"), (0, u "Z"), (91, u "twoToTheDoubleScaleDown"), (0, u "D"), (4, u "twoToTheDoubleScaleUp"), (9, u "E"), (3, u "PI"), (2, u "TAU"), (2, u "DEGREES_TO_RADIANS"), (0, u "RADIANS_TO_DEGREES")] 94

def k2m0 : Method := { name := "<init>", desc := "()V", sig := { parameters := [], returnType := none }, accessFlags := 2, code := none }
def k2c1 : Code := { maxStack := 4, maxLocals := 4, code := jdk_29_method_66_code, exceptionTable := #[], attributes := #[] }
def k2m1 : Method := { name := "max", desc := "(JJ)J", sig := { parameters := [.long, .long], returnType := some .long }, accessFlags := 9, code := some k2c1 }
/-- java/lang/Math -/
def k2 : Class := { plain "java/lang/Math" (some 0) with
  accessFlags := 49
  interfaces := #[]
  cf := some (fileOf pool2 1 #[.nestMembers #[98]] #[{ accessFlags := 2, nameIndex := 7, descriptorIndex := 8, attributes := #[] }, { accessFlags := 9, nameIndex := 198, descriptorIndex := 121, attributes := #[] }] 49 4 #[] #[{ accessFlags := 25, nameIndex := 354, descriptorIndex := 339, attributes := #[] }, { accessFlags := 25, nameIndex := 358, descriptorIndex := 339, attributes := #[] }, { accessFlags := 25, nameIndex := 361, descriptorIndex := 339, attributes := #[] }, { accessFlags := 26, nameIndex := 364, descriptorIndex := 339, attributes := #[] }, { accessFlags := 26, nameIndex := 365, descriptorIndex := 339, attributes := #[] }, { accessFlags := 26, nameIndex := 172, descriptorIndex := 173, attributes := #[] }, { accessFlags := 26, nameIndex := 176, descriptorIndex := 173, attributes := #[] }, { accessFlags := 8, nameIndex := 344, descriptorIndex := 339, attributes := #[] }, { accessFlags := 8, nameIndex := 338, descriptorIndex := 339, attributes := #[] }, { accessFlags := 4120, nameIndex := 245, descriptorIndex := 246, attributes := #[] }])
  fields := #[{ name := "E", type := .double, accessFlags := 25, slot := 0, constantValue := 0 }, { name := "PI", type := .double, accessFlags := 25, slot := 1, constantValue := 0 }, { name := "TAU", type := .double, accessFlags := 25, slot := 2, constantValue := 0 }, { name := "DEGREES_TO_RADIANS", type := .double, accessFlags := 26, slot := 3, constantValue := 0 }, { name := "RADIANS_TO_DEGREES", type := .double, accessFlags := 26, slot := 4, constantValue := 0 }, { name := "negativeZeroFloatBits", type := .long, accessFlags := 26, slot := 5, constantValue := 0 }, { name := "negativeZeroDoubleBits", type := .long, accessFlags := 26, slot := 6, constantValue := 0 }, { name := "twoToTheDoubleScaleUp", type := .double, accessFlags := 8, slot := 7, constantValue := 0 }, { name := "twoToTheDoubleScaleDown", type := .double, accessFlags := 8, slot := 8, constantValue := 0 }, { name := "$assertionsDisabled", type := .boolean, accessFlags := 4120, slot := 9, constantValue := 0 }]
  methods := #[k2m0, k2m1]
  instanceTypes := #[]
  staticTypes := #[.double, .double, .double, .double, .double, .long, .long, .double, .double, .boolean]
  resolved := Array.replicate 460 none
  statics := none }

def pool3 : Array CpInfo := pool [(1, .methodref 2 3), (0, .class_ 4), (0, .nameAndType 5 6), (0, u "java/lang/Object"), (0, u "<init>"), (0, u "()V"), (0, .class_ 8), (0, u "com/example/brisk_throttle/briskthrottle/Divisor"), (0, .long 4096), (10, .fieldref 7 21), (0, .nameAndType 22 23), (0, u "divisor"), (0, u "J"), (0, .fieldref 7 25), (0, .nameAndType 26 27), (0, u "reciprocal"), (0, u "D"), (2, u "quotient"), (0, u "(J)J"), (0, u "MIN"), (1, u "(J)V")] 22

def k3c0 : Code := { maxStack := 5, maxLocals := 3, code := prog_14_method_1_code, exceptionTable := #[], attributes := #[] }
def k3m0 : Method := { name := "<init>", desc := "(J)V", sig := { parameters := [.long], returnType := none }, accessFlags := 0, code := some k3c0 }
def k3c1 : Code := { maxStack := 6, maxLocals := 7, code := prog_14_method_3_code, exceptionTable := #[], attributes := #[] }
def k3m1 : Method := { name := "quotient", desc := "(J)J", sig := { parameters := [.long], returnType := some .long }, accessFlags := 0, code := some k3c1 }
/-- com/example/brisk_throttle/briskthrottle/Divisor -/
def k3 : Class := { plain "com/example/brisk_throttle/briskthrottle/Divisor" (some 0) with
  accessFlags := 32
  interfaces := #[]
  cf := some (fileOf pool3 7 #[] #[{ accessFlags := 0, nameIndex := 5, descriptorIndex := 34, attributes := #[] }, { accessFlags := 0, nameIndex := 30, descriptorIndex := 31, attributes := #[] }] 32 2 #[] #[{ accessFlags := 24, nameIndex := 32, descriptorIndex := 23, attributes := #[] }, { accessFlags := 18, nameIndex := 22, descriptorIndex := 23, attributes := #[] }, { accessFlags := 18, nameIndex := 26, descriptorIndex := 27, attributes := #[] }])
  fields := #[{ name := "MIN", type := .long, accessFlags := 24, slot := 0, constantValue := 0 }, { name := "divisor", type := .long, accessFlags := 18, slot := 0, constantValue := 0 }, { name := "reciprocal", type := .double, accessFlags := 18, slot := 1, constantValue := 0 }]
  methods := #[k3m0, k3m1]
  instanceTypes := #[.long, .double]
  staticTypes := #[.long]
  resolved := Array.replicate 57 none
  statics := none }

def pool4 : Array CpInfo := pool [(1, u "java/lang/Cloneable"), (0, .class_ 1), (0, u "java/lang/Object"), (0, .class_ 3)] 3

/-- java/lang/Cloneable -/
def k4 : Class := { plain "java/lang/Cloneable" (some 0) with
  accessFlags := 1537
  interfaces := #[]
  cf := some (fileOf pool4 2 #[] #[] 1537 4 #[] #[])
  fields := #[]
  methods := #[]
  instanceTypes := #[]
  staticTypes := #[]
  resolved := Array.replicate 8 none
  statics := none }

def pool5 : Array CpInfo := pool [(1, u "java/io/Serializable"), (0, .class_ 1), (0, u "java/lang/Object"), (0, .class_ 3)] 3

/-- java/io/Serializable -/
def k5 : Class := { plain "java/io/Serializable" (some 0) with
  accessFlags := 1537
  interfaces := #[]
  cf := some (fileOf pool5 2 #[] #[] 1537 4 #[] #[])
  fields := #[]
  methods := #[]
  instanceTypes := #[]
  staticTypes := #[]
  resolved := Array.replicate 8 none
  statics := none }

/-- the primitive byte -/
def k6 : Class := { plain "byte" none with kind := .primitive 'B', accessFlags := 0x411 }
/-- [B -/
def k7 : Class := { plain "[B" (some 0) with kind := .array 6 .byte, interfaces := #[4, 5], accessFlags := 1041 }

/-- the primitive int -/
def k8 : Class := { plain "int" none with kind := .primitive 'I', accessFlags := 0x411 }
/-- [I -/
def k9 : Class := { plain "[I" (some 0) with kind := .array 8 .int, interfaces := #[4, 5], accessFlags := 1041 }

def heap : Heap := #[]
def classes : Array Class := #[k0, k1, k2, k3, k4, k5, k6, k7, k8, k9]
def interned : List (Array UInt16 × Addr) := []
def slotsUsed : Nat := 0
def theMethod : MethodId := ⟨1, 1⟩
def args0 : Array Value := #[.long 1000000, .long 5000]
def aboutOver (below : List Frame) : State where
  vm := { classes := classes, interned := interned.toArray }
  heap := heap
  slotsUsed := slotsUsed
  threads := #[{ frames := .invoking theMethod args0 :: below }]
def below0 : List Frame := [.native { method := ⟨0, 0⟩, args := #[] }]
def about1 : State := aboutOver below0
def p0 : Program := .bare "" "" ""
def e0 : Env := launch0.env 0 0 0
theorem w_frames : about1.frames = Frame.invoking theMethod args0 :: below0 := rfl
set_option maxRecDepth 65536 in
theorem w_args : argsFit about1.vm theMethod args0 = true := by decide +kernel
set_option maxRecDepth 65536 in
theorem w_heap : heapFits about1 = true := by decide +kernel
set_option maxRecDepth 65536 in
theorem w_runnable : about1.curStatus? = some .runnable := by decide +kernel
set_option maxRecDepth 65536 in
theorem w_alone : about1.alone = true := by decide +kernel
set_option maxRecDepth 65536 in
theorem w_named : about1.methodNamed? x = some theMethod := by decide +kernel
set_option maxRecDepth 65536 in
theorem w_hears : about1.hears theMethod below0 = true := by decide +kernel
set_option maxRecDepth 65536 in
theorem w_ripe : about1.ripe theMethod args0 below0 = true := by decide +kernel
theorem w_running : about1.status = .running := rfl
set_option maxRecDepth 65536 in
theorem w_room : about1.hasRoom e0.platform room_1 = true :=
  launch0.hasRoom_least _ room_1 (by decide +kernel) (by decide +kernel) (by decide +kernel) (by decide +kernel) (by decide +kernel) (by decide +kernel)
theorem allAtoms_all (ts : List Jvm.Cond) (a : Array Jvm.Value) (st : Jvm.State) : (allAtoms ts).before a st = ts.all (fun c => c.before a st) := by
  induction ts with
  | nil => rfl
  | cons c t ih =>
    show (Jvm.Cond.and c (allAtoms t)).before a st = _
    rw [Jvm.Cond.before_and, ih, List.all_cons]
def words1 : List Jvm.Cond := Jvm.Cond.code x code maxLocals ret :: tables_1
/-- a 'code' word, met by the world's own term for the bytes: nothing is compared byte by byte -/
theorem code_word {y : MethodName} {bytes : ByteArray} {mx : Nat} {rt : Option FieldType} {a : Array Value} {s : State} {m : MethodId} {meth : Method} {c : Code} (h1 : s.methodNamed? y = some m) (h2 : s.vm.method? m = some meth) (h3 : meth.code = some c) (h4 : c.code = bytes)
    (h5 : (c.maxLocals == mx && c.exceptionTable.isEmpty && decide (c.maxStack ≤ mostOperands) && decide (meth.sig.returnType = rt) && !meth.locks && decide (parseMethodDescriptor y.desc = some meth.sig)) = true) : (Jvm.Cond.code y bytes mx rt).before a s = true := by
  simp only [Bool.and_eq_true, beq_iff_eq, Bool.not_eq_true', decide_eq_true_eq] at h5
  obtain ⟨⟨⟨⟨⟨g1, g2⟩, g3⟩, g4⟩, g5⟩, g6⟩ := h5
  simp [Cond.before, Cond.holds, Cond.value, h1, h2, h3, h4, g1, g2, g3, g4, g5, g6]
def isCode : Jvm.Cond → Bool
  | .code _ _ _ _ => true
  | _ => false
theorem all_split {L : List Jvm.Cond} {P : Jvm.Cond → Bool} (h1 : L.all (fun c => isCode c || P c) = true) (h2 : ∀ c ∈ L.filter isCode, P c = true) : L.all P = true := by
  refine List.all_eq_true.mpr fun c hc => ?_
  have h := List.all_eq_true.mp h1 c hc
  rcases Bool.eq_false_or_eq_true (isCode c) with hi | hi
  · exact h2 c (List.mem_filter.mpr ⟨hc, hi⟩)
  · simpa [hi] using h
set_option maxRecDepth 65536 in
theorem w_c0 : (Jvm.Cond.code x code maxLocals ret).before args0 about1 = true := code_word (m := ⟨1, 1⟩) (meth := k1m1) (c := k1c1) (by decide +kernel) rfl rfl rfl (by decide +kernel)
set_option maxRecDepth 65536 in
theorem w_c1 : (Jvm.Cond.code ({ cls := "java/lang/Math", name := "max", desc := "(JJ)J" } : Jvm.MethodName) jdk_29_method_66_code (4 : Nat) (Option.some Jvm.ClassFile.FieldType.long)).before args0 about1 = true := code_word (m := ⟨2, 1⟩) (meth := k2m1) (c := k2c1) (by decide +kernel) rfl rfl rfl (by decide +kernel)
set_option maxRecDepth 65536 in
theorem w_c2 : (Jvm.Cond.code ({ cls := "com/example/brisk_throttle/briskthrottle/Divisor", name := "<init>", desc := "(J)V" } : Jvm.MethodName) prog_14_method_1_code (3 : Nat) (Option.none : Option Jvm.ClassFile.FieldType)).before args0 about1 = true := code_word (m := ⟨3, 0⟩) (meth := k3m0) (c := k3c0) (by decide +kernel) rfl rfl rfl (by decide +kernel)
set_option maxRecDepth 65536 in
theorem w_c3 : (Jvm.Cond.code ({ cls := "java/lang/Object", name := "<init>", desc := "()V" } : Jvm.MethodName) object_method_1_code (1 : Nat) (Option.none : Option Jvm.ClassFile.FieldType)).before args0 about1 = true := code_word (m := ⟨0, 0⟩) (meth := k0m0) (c := k0c0) (by decide +kernel) rfl rfl rfl (by decide +kernel)
set_option maxRecDepth 65536 in
theorem w_c4 : (Jvm.Cond.code ({ cls := "com/example/brisk_throttle/briskthrottle/Divisor", name := "quotient", desc := "(J)J" } : Jvm.MethodName) prog_14_method_3_code (7 : Nat) (Option.some Jvm.ClassFile.FieldType.long)).before args0 about1 = true := code_word (m := ⟨3, 1⟩) (meth := k3m1) (c := k3c1) (by decide +kernel) rfl rfl rfl (by decide +kernel)
def codes1 : List Jvm.Cond := [Jvm.Cond.code x code maxLocals ret, Jvm.Cond.code ({ cls := "java/lang/Math", name := "max", desc := "(JJ)J" } : Jvm.MethodName) jdk_29_method_66_code (4 : Nat) (Option.some Jvm.ClassFile.FieldType.long), Jvm.Cond.code ({ cls := "com/example/brisk_throttle/briskthrottle/Divisor", name := "<init>", desc := "(J)V" } : Jvm.MethodName) prog_14_method_1_code (3 : Nat) (Option.none : Option Jvm.ClassFile.FieldType), Jvm.Cond.code ({ cls := "java/lang/Object", name := "<init>", desc := "()V" } : Jvm.MethodName) object_method_1_code (1 : Nat) (Option.none : Option Jvm.ClassFile.FieldType), Jvm.Cond.code ({ cls := "com/example/brisk_throttle/briskthrottle/Divisor", name := "quotient", desc := "(J)J" } : Jvm.MethodName) prog_14_method_3_code (7 : Nat) (Option.some Jvm.ClassFile.FieldType.long)]
set_option maxRecDepth 65536 in
theorem codes_eq : words1.filter isCode = codes1 := rfl
theorem w_codes : ∀ c ∈ words1.filter isCode, c.before args0 about1 = true := by
  rw [codes_eq]
  intro c hc
  simp only [codes1, List.mem_cons, List.not_mem_nil, or_false] at hc
  rcases hc with rfl | rfl | rfl | rfl | rfl
  · exact w_c0
  · exact w_c1
  · exact w_c2
  · exact w_c3
  · exact w_c4
set_option maxRecDepth 65536 in
theorem w_t1 : (words1.take 24).all (fun c => isCode c || c.before args0 about1) = true := by decide +kernel
set_option maxRecDepth 65536 in
theorem w_t2 : (words1.drop 24).all (fun c => isCode c || c.before args0 about1) = true := by decide +kernel
theorem w_tables : (allAtoms (Jvm.Cond.code x code maxLocals ret :: tables_1)).before args0 about1 = true := by
  rw [allAtoms_all]
  show words1.all (fun c => c.before args0 about1) = true
  refine all_split ?_ w_codes
  rw [← List.take_append_drop 24 words1, List.all_append, w_t1, w_t2]
  rfl
set_option maxRecDepth 65536 in
theorem w_case : (Jvm.Cond.and given_1 narrow_1).before args0 about1 = true := by decide +kernel
theorem w_applies : (headSpec (Jvm.Cond.code x code maxLocals ret :: tables_1) room_1).applies x e0.platform about1 = true :=
  (Spec.applies_iff w_frames).mpr ⟨w_running, w_runnable, w_alone, w_named, w_hears, w_ripe, w_room, w_tables⟩
theorem atStart : AtStart classFile x code maxLocals ret World_1 tables_1 room_1 Calls_1 rest_1 Pre_1 launch0 p0 e0 about1 theMethod args0 below0 :=
  ⟨lists_1, trivial, launch0.admits_env _ _ _, launch0.least_env, fairChoices_fair.cas, fairChoices_fair.clock, w_frames, w_args, w_heap, w_applies, trivial, trivial, w_case⟩
end start1
theorem witness_1 : WitnessClaimed_1 := ⟨start1.p0, start1.e0, start1.about1, start1.theMethod, start1.args0, start1.below0, start1.atStart⟩
end Jvm.Pilot.@@N@@
