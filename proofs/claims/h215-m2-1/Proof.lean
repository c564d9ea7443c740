import JvmDerived
import JvmDerived.Pilot.@@N@@Statement
import JvmDerived.Pilot.@@N@@Code
set_option linter.unusedVariables false
set_option linter.unusedSimpArgs false

namespace Jvm.Pilot.@@N@@
section Floats
open Jvm.FP.Core
/-- a is finite, not below nought (no -0.0 either), and its value is z / 2^1074 -/
def NN (a : UInt64) (z : Nat) : Prop := ∃ c q, val64 a = .fin false c q ∧ c * 2 ^ (q + 1074).toNat = z
theorem own_one : one64 = 2 ^ 1074 := rfl
theorem own_onei : (one64 : Int) = ((2 ^ 1074 : Nat) : Int) := rfl
theorem own_fit {a : UInt64} {s : Bool} {c : Nat} {q : Int} (h : val64 a = .fin s c q) : c < 2 ^ 53 ∧ -1074 ≤ q ∧ q ≤ 971 ∧ Jvm.FP.Core.fits b64 (.fin s c q) := by
  have hf := val64_fits a
  rw [h] at hf
  have h1 : c < 2 ^ 53 := hf.1
  have h2 : b64.qmin ≤ q := hf.2.1
  have h3 : q ≤ b64.qmax := hf.2.2.1
  rw [qmin_b64] at h2
  have h4 : b64.qmax = 971 := by decide +kernel
  rw [h4] at h3
  exact ⟨h1, h2, h3, hf⟩
theorem own_inU (c : Nat) (q : Int) : inUnits c q b64.qmin = c * 2 ^ (q + 1074).toNat := by
  unfold inUnits; rw [qmin_b64, show q - -1074 = q + 1074 by omega]
theorem NN.ne {a : UInt64} {z : Nat} (h : NN a z) : val64 a ≠ .nan := by
  obtain ⟨c, q, h1, -⟩ := h; rw [h1]; exact fun k => by cases k
theorem NN.fin {a : UInt64} {z : Nat} (h : NN a z) : DFin a := by
  obtain ⟨c, q, h1, -⟩ := h; exact ⟨_, _, _, h1⟩
theorem NN.zmag {a : UInt64} {z : Nat} (h : NN a z) : zmag b64 (val64 a) = z := by
  obtain ⟨c, q, h1, h2⟩ := h; rw [h1]; show inUnits c q b64.qmin = z; rw [own_inU, h2]
theorem NN.sgn {a : UInt64} {z : Nat} (h : NN a z) : sgn (val64 a) = false := by
  obtain ⟨c, q, h1, h2⟩ := h; rw [h1]; rfl
theorem NN.zval {a : UInt64} {z : Nat} (h : NN a z) : zval b64 (val64 a) = (z : Int) := by
  unfold Jvm.FP.Core.zval; rw [h.sgn, h.zmag]; rfl
theorem NN.of {a : UInt64} (h1 : DFin a) (h2 : Jvm.FP.Core.sgn (val64 a) = false) : NN a (Jvm.FP.Core.zmag b64 (val64 a)) := by
  obtain ⟨s, c, q, h⟩ := h1
  rw [h] at h2 ⊢
  have h3 : s = false := h2
  subst h3
  exact ⟨c, q, h, (own_inU c q).symm⟩
theorem NN.cmp {a b : UInt64} {x y : Nat} (ha : NN a x) (hb : NN b y) : Jvm.FP.dcmp a b = some (compare (x : Int) (y : Int)) := by
  show Jvm.FP.Core.dcmp a b = _
  rw [dcmp_zval ha.ne hb.ne, ha.zval, hb.zval]
theorem NN.lt {a b : UInt64} {x y : Nat} (ha : NN a x) (hb : NN b y) (h : x < y) : Jvm.FP.dcmp a b = some .lt := by
  rw [ha.cmp hb, (compare_lt_iff _ _).mpr (by omega)]
theorem NN.gt {a b : UInt64} {x y : Nat} (ha : NN a x) (hb : NN b y) (h : y < x) : Jvm.FP.dcmp a b = some .gt := by
  rw [ha.cmp hb, (compare_gt_iff _ _).mpr (by omega)]
theorem NN.eq {a b : UInt64} {x y : Nat} (ha : NN a x) (hb : NN b y) (h : x = y) : Jvm.FP.dcmp a b = some .eq := by
  rw [ha.cmp hb, (compare_eq_iff _ _).mpr (by omega)]
/-- every c * 2^(k - 1074) of 53 digits is a double -/
theorem own_rep {c k : Nat} (hc : c < 2 ^ 53) (hk : k ≤ 2045) : ∃ V, NN V (c * 2 ^ k) := by
  obtain ⟨c', q', h1, h2⟩ := round_exact good_b64 false (c := c) (q := (k : Int) - 1074) hc (by rw [qmin_b64]; omega) (by rw [show b64.qmax = 971 by decide +kernel]; omega)
  refine ⟨of64 (round b64 (.fin false c ((k : Int) - 1074))), c', q', ?_, ?_⟩
  · rw [val64_of64 (round_fits good_b64 _), h1]
  · rw [own_inU, own_inU] at h2
    rw [h2, show ((k : Int) - 1074 + 1074).toNat = k by omega]
/-- a whole number that is a double -/
theorem own_nat {n : Nat} (hn : n < 2 ^ 53) : ∃ V, NN V (n * 2 ^ 1074) := own_rep hn (by omega)
theorem own_zlt {s : Bool} {c : Nat} {q : Int} (h : Jvm.FP.Core.fits b64 (.fin s c q)) : Jvm.FP.Core.zmag b64 (.fin s c q) < b64.tails * 2 ^ (b64.exps - 2) := zmag_lt_top good_b64 h
/-- a rounding that is not above a finite double is finite -/
theorem own_fin_of_le {d V : Datum} (hd : d ≠ .nan) (hV : Jvm.FP.Core.fits b64 V) (hf : ∃ s c q, V = .fin s c q) (h : Jvm.FP.Core.zmag b64 d ≤ Jvm.FP.Core.zmag b64 V) : ∃ s c q, d = .fin s c q := by
  obtain ⟨s, c, q, rfl⟩ := hf
  have h1 := own_zlt hV
  cases d with
  | nan => exact absurd rfl hd
  | inf t =>
    have h2 : Jvm.FP.Core.zmag b64 (.inf t) = b64.tails * 2 ^ (b64.exps - 2) := rfl
    rw [h2] at h
    exact absurd (Nat.lt_of_le_of_lt h h1) (Nat.lt_irrefl _)
  | fin t c' q' => exact ⟨_, _, _, rfl⟩
theorem NN.vf {a : UInt64} {z : Nat} (h : NN a z) : ∃ s c q, val64 a = .fin s c q := h.fin
/-- the quotient of two doubles: nothing lies between it and the exact one -/
theorem own_ddiv {a b B : UInt64} {x y w : Nat} (ha : NN a x) (hb : NN b y) (hy : 0 < y) (hB : NN B w) (hle : x * 2 ^ 1074 ≤ w * y) :
    ∃ z, NN (Jvm.FP.ddiv a b) z ∧ (∀ V v, NN V v → x * 2 ^ 1074 ≤ v * y → z ≤ v) ∧ (∀ V v, NN V v → v * y ≤ x * 2 ^ 1074 → v ≤ z) := by
  have hbz := hb.zmag
  obtain ⟨c, q, h1, h2⟩ := ha
  obtain ⟨d, r, h3, h4⟩ := hb
  obtain ⟨-, q1, q2, -⟩ := own_fit h1
  obtain ⟨-, r1, r2, -⟩ := own_fit h3
  have hd : d ≠ 0 := by rintro rfl; rw [Nat.zero_mul] at h4; omega
  have hv : val64 (Jvm.FP.Core.ddiv a b) = roundRatio b64 false c d (q - r) := by
    rw [val64_ddiv, h1, h3]; show (if d = 0 then _ else _) = _; rw [if_neg hd]; rfl
  have e1 : inUnits c (q - r) (b64.qmin - (r + 1074)) = x * 2 ^ 1074 := by
    unfold inUnits
    rw [qmin_b64, ← h2, show (q - r - (-1074 - (r + 1074))).toNat = (q + 1074).toNat + 1074 by omega, Nat.pow_add, Nat.mul_assoc]
  have e2 : ∀ v : Nat, v * 2 ^ (b64.qmin - (b64.qmin - (r + 1074))).toNat * d = v * y := by
    intro v
    rw [show b64.qmin - (b64.qmin - (r + 1074)) = r + 1074 by omega, ← h4, Nat.mul_assoc, Nat.mul_comm (2 ^ _) d]
  have le : ∀ V v, NN V v → x * 2 ^ 1074 ≤ v * y → Jvm.FP.Core.zmag b64 (roundRatio b64 false c d (q - r)) ≤ v := by
    intro V v hV h
    have k := zmag_roundRatio_le good_b64 (s := false) (A := c) (B := d) (e := q - r) (e0 := b64.qmin - (r + 1074)) (V := val64 V) (by omega) (val64_fits V) hV.ne (by omega) (by rw [qmin_b64]; omega) (by rw [e1, e2, hV.zmag]; exact h)
    rw [hV.zmag] at k; exact k
  have ge : ∀ V v, NN V v → v * y ≤ x * 2 ^ 1074 → v ≤ Jvm.FP.Core.zmag b64 (roundRatio b64 false c d (q - r)) := by
    intro V v hV h
    have k := zmag_roundRatio_ge good_b64 (s := false) (A := c) (B := d) (e := q - r) (e0 := b64.qmin - (r + 1074)) (V := val64 V) (by omega) (val64_fits V) (by omega) (by rw [qmin_b64]; omega) (by rw [e1, e2, hV.zmag]; exact h)
    rw [hV.zmag] at k; exact k
  have fin : DFin (Jvm.FP.Core.ddiv a b) := by
    refine own_fin_of_le (V := val64 B) ?_ (val64_fits B) hB.vf ?_
    · rw [hv]; exact roundRatio_ne_nan _ _ _ _ _
    · rw [hv, hB.zmag]; exact le B w hB hle
  have sg : Jvm.FP.Core.sgn (val64 (Jvm.FP.Core.ddiv a b)) = false := by rw [hv]; exact sgn_roundRatio _ _ _ _ _
  refine ⟨_, NN.of fin sg, ?_, ?_⟩
  · intro V v hV h; rw [hv]; exact le V v hV h
  · intro V v hV h; rw [hv]; exact ge V v hV h
/-- the product likewise -/
theorem own_dmul {a b B : UInt64} {x y w : Nat} (ha : NN a x) (hb : NN b y) (hB : NN B w) (hle : x * y ≤ w * 2 ^ 1074) :
    ∃ z, NN (Jvm.FP.dmul a b) z ∧ (∀ V v, NN V v → x * y ≤ v * 2 ^ 1074 → z ≤ v) ∧ (∀ V v, NN V v → v * 2 ^ 1074 ≤ x * y → v ≤ z) := by
  have haz := ha.zmag
  have hbz := hb.zmag
  obtain ⟨c, q, h1, h2⟩ := ha
  obtain ⟨d, r, h3, h4⟩ := hb
  obtain ⟨-, q1, q2, f1⟩ := own_fit h1
  obtain ⟨-, r1, r2, f2⟩ := own_fit h3
  obtain ⟨p1, p2, p3⟩ := product_units f1 f2
  rw [h1] at haz
  rw [h3] at hbz
  rw [haz, hbz] at p3
  have hv : val64 (Jvm.FP.Core.dmul a b) = roundRatio b64 false (c * d) 1 (q + r) := by
    rw [val64_dmul, h1, h3, p1]; rfl
  have e2 : ∀ v : Nat, v * 2 ^ (b64.qmin - 2 * b64.qmin).toNat * 1 = v * 2 ^ 1074 := by
    intro v
    rw [qmin_b64, Nat.mul_one]; rfl
  have le : ∀ V v, NN V v → x * y ≤ v * 2 ^ 1074 → Jvm.FP.Core.zmag b64 (roundRatio b64 false (c * d) 1 (q + r)) ≤ v := by
    intro V v hV h
    have k := zmag_roundRatio_le good_b64 (s := false) (A := c * d) (B := 1) (e := q + r) (e0 := 2 * b64.qmin) (V := val64 V) (by omega) (val64_fits V) hV.ne (by rw [qmin_b64]; omega) p2 (by rw [p3, e2, hV.zmag]; exact h)
    rw [hV.zmag] at k; exact k
  have ge : ∀ V v, NN V v → v * 2 ^ 1074 ≤ x * y → v ≤ Jvm.FP.Core.zmag b64 (roundRatio b64 false (c * d) 1 (q + r)) := by
    intro V v hV h
    have k := zmag_roundRatio_ge good_b64 (s := false) (A := c * d) (B := 1) (e := q + r) (e0 := 2 * b64.qmin) (V := val64 V) (by omega) (val64_fits V) (by rw [qmin_b64]; omega) p2 (by rw [p3, e2, hV.zmag]; exact h)
    rw [hV.zmag] at k; exact k
  have fin : DFin (Jvm.FP.Core.dmul a b) := by
    refine own_fin_of_le (V := val64 B) ?_ (val64_fits B) hB.vf ?_
    · rw [hv]; exact roundRatio_ne_nan _ _ _ _ _
    · rw [hv, hB.zmag]; exact le B w hB hle
  have sg : Jvm.FP.Core.sgn (val64 (Jvm.FP.Core.dmul a b)) = false := by rw [hv]; exact sgn_roundRatio _ _ _ _ _
  refine ⟨_, NN.of fin sg, ?_, ?_⟩
  · intro V v hV h; rw [hv]; exact le V v hV h
  · intro V v hV h; rw [hv]; exact ge V v hV h
/-- whole numbers up to 2^53 -/
theorem own_l2d {n : Int64} {k : Nat} (h : n.toInt = k) (hk : k ≤ 2 ^ 53) : NN (Jvm.FP.l2d n) (k * 2 ^ 1074) := by
  have h1 : DInt n.toInt (Jvm.FP.Core.l2d n) := l2d_int (by rw [h]; exact hk)
  have h2 := DInt_zval h1
  obtain ⟨c, q, h3⟩ := l2d_shape n
  have h4 : decide (n.toInt < 0) = false := by rw [h]; simp
  rw [h4] at h3
  refine ⟨c, q, h3, ?_⟩
  rw [h3, h] at h2
  have h5 : Jvm.FP.Core.zval b64 (.fin false c q) = ((inUnits c q b64.qmin : Nat) : Int) := rfl
  rw [h5, own_inU, own_onei] at h2
  exact Int.ofNat.inj (by rw [Int.ofNat_eq_natCast, Int.ofNat_eq_natCast, h2]; exact (Int.natCast_mul _ _).symm)
theorem own_i2d {n : Int32} {k : Nat} (h : n.toInt = k) : NN (Jvm.FP.i2d n) (k * 2 ^ 1074) := by
  have e : Jvm.FP.i2d n = Jvm.FP.l2d n.toInt64 := i2d_l2d n
  rw [e]
  have := n.toInt_lt
  exact own_l2d (by rw [Int32.toInt_toInt64, h]) (by omega)
theorem NN.noNaN {a : UInt64} {z : Nat} (h : NN a z) : Jvm.Free.Fl.NoNaN64 a := by
  rw [Jvm.Free.Fl.noNaN64_iff]
  exact (ne_nan a).mp h.ne
theorem NN.inj {a : UInt64} {x y : Nat} (h : NN a x) (k : NN a y) : x = y := h.zmag.symm.trans k.zmag
end Floats

section Mono
open Jvm.FP.Core
/-- rounding is monotone -/
theorem own_mono {A B A' B' : Nat} {e e' e0 : Int} (hB : 0 < B) (hB' : 0 < B') (h0 : e0 < b64.qmin) (h0e : e0 ≤ e) (h0e' : e0 ≤ e') (h : inUnits A e e0 * B' ≤ inUnits A' e' e0 * B) :
    Jvm.FP.Core.zmag b64 (roundRatio b64 false A B e) ≤ Jvm.FP.Core.zmag b64 (roundRatio b64 false A' B' e') := by
  have h0' : e0 ≤ b64.qmin := Int.le_of_lt h0
  have fR := roundRatio_fits good_b64 false A hB e
  have fR' := roundRatio_fits good_b64 false A' hB' e'
  have nR := roundRatio_ne_nan b64 false A B e
  have nR' := roundRatio_ne_nan b64 false A' B' e'
  have le := zmag_roundRatio_le good_b64 (s := false) (A := A) hB fR' nR' h0' h0e
  have ge := zmag_roundRatio_ge good_b64 (s := false) (A := A') hB' fR h0' h0e'
  rcases Nat.lt_or_ge (Jvm.FP.Core.zmag b64 (roundRatio b64 false A' B' e')) (Jvm.FP.Core.zmag b64 (roundRatio b64 false A B e)) with hlt | hge
  · exfalso
    have k1 : ¬ inUnits A e e0 ≤ Jvm.FP.Core.zmag b64 (roundRatio b64 false A' B' e') * 2 ^ (b64.qmin - e0).toNat * B := fun q => absurd (le q) (Nat.not_le.mpr hlt)
    have k2 : ¬ Jvm.FP.Core.zmag b64 (roundRatio b64 false A B e) * 2 ^ (b64.qmin - e0).toNat * B' ≤ inUnits A' e' e0 := fun q => absurd (ge q) (Nat.not_le.mpr hlt)
    rcases roundRatio_cases b64 false A B e with ⟨c, q, hR⟩ | hR
    · rcases roundRatio_cases b64 false A' B' e' with ⟨c', q', hR'⟩ | hR'
      · have d1 := roundRatio_nearest good_b64 hB hR (c' := c') (q' := q') (by rw [hR'] at fR'; exact fR'.1) (by rw [hR'] at fR'; exact fR'.2.1) h0' h0e
        have d2 := roundRatio_nearest good_b64 hB' hR' (c' := c) (q' := q) (by rw [hR] at fR; exact fR.1) (by rw [hR] at fR; exact fR.2.1) h0' h0e'
        unfold distance at d1 d2
        rw [hR] at fR k2 hlt
        rw [hR'] at fR' k1 hlt
        rw [units_fin fR h0', units_fin fR' h0'] at d1 d2
        generalize Jvm.FP.Core.zmag b64 (.fin false c q) * 2 ^ (b64.qmin - e0).toNat = r at *
        generalize Jvm.FP.Core.zmag b64 (.fin false c' q') * 2 ^ (b64.qmin - e0).toNat = r' at *
        generalize hX : inUnits A e e0 = X at *
        generalize hX' : inUnits A' e' e0 = X' at *
        -- r' * B < X, X' < r * B', X * B' ≤ X' * B
        have d1' : r * B + r' * B ≤ 2 * X := by
          have e1 : (r : Int) * (B : Int) = ((r * B : Nat) : Int) := (Int.natCast_mul _ _).symm
          have e2 : (r' : Int) * (B : Int) = ((r' * B : Nat) : Int) := (Int.natCast_mul _ _).symm
          rw [e1, e2] at d1
          have g1 : X * B' < r * B * B' := by
            calc X * B' ≤ X' * B := h
              _ < r * B' * B := Nat.mul_lt_mul_of_pos_right (by omega) hB
              _ = r * B * B' := by ac_rfl
          have g2 : X < r * B := Nat.lt_of_mul_lt_mul_right g1
          omega
        have d2' : 2 * X' ≤ r * B' + r' * B' := by
          have e1 : (r : Int) * (B' : Int) = ((r * B' : Nat) : Int) := (Int.natCast_mul _ _).symm
          have e2 : (r' : Int) * (B' : Int) = ((r' * B' : Nat) : Int) := (Int.natCast_mul _ _).symm
          rw [e1, e2] at d2
          have g1 : r' * B' * B < X' * B := by
            calc r' * B' * B = r' * B * B' := by ac_rfl
              _ < X * B' := Nat.mul_lt_mul_of_pos_right (by omega) hB'
              _ ≤ X' * B := h
          have g2 : r' * B' < X' := Nat.lt_of_mul_lt_mul_right g1
          omega
        have eq : X * B' = X' * B := by
          have g1 : (r * B + r' * B) * B' ≤ 2 * X * B' := Nat.mul_le_mul_right _ d1'
          have g2 : 2 * X' * B ≤ (r * B' + r' * B') * B := Nat.mul_le_mul_right _ d2'
          have g3 : (r * B + r' * B) * B' = (r * B' + r' * B') * B := by rw [Nat.add_mul, Nat.add_mul]; congr 1 <;> ac_rfl
          rw [g3] at g1
          rw [Nat.mul_assoc] at g1 g2
          omega
        have same : roundRatio b64 false A B e = roundRatio b64 false A' B' e' := by
          refine roundRatio_congr hB hB' ?_
          rw [← hX, ← hX'] at eq
          unfold inUnits at eq
          rcases Int.le_total e' e with g | g
          · have e1 : (e' - e).toNat = 0 := by omega
            rw [e1, Nat.pow_zero, Nat.mul_one]
            refine Nat.eq_of_mul_eq_mul_right (Nat.two_pow_pos (e' - e0).toNat) ?_
            calc A * B' * 2 ^ (e - e').toNat * 2 ^ (e' - e0).toNat = A * B' * 2 ^ ((e - e').toNat + (e' - e0).toNat) := by rw [Nat.pow_add]; ac_rfl
              _ = A * B' * 2 ^ (e - e0).toNat := by congr 2; omega
              _ = A * 2 ^ (e - e0).toNat * B' := by ac_rfl
              _ = A' * 2 ^ (e' - e0).toNat * B := eq
              _ = A' * B * 2 ^ (e' - e0).toNat := by ac_rfl
          · have e1 : (e - e').toNat = 0 := by omega
            rw [e1, Nat.pow_zero, Nat.mul_one]
            refine Nat.eq_of_mul_eq_mul_right (Nat.two_pow_pos (e - e0).toNat) ?_
            calc A * B' * 2 ^ (e - e0).toNat = A * 2 ^ (e - e0).toNat * B' := by ac_rfl
              _ = A' * 2 ^ (e' - e0).toNat * B := eq
              _ = A' * B * 2 ^ (e' - e0).toNat := by ac_rfl
              _ = A' * B * 2 ^ ((e' - e).toNat + (e - e0).toNat) := by congr 2; omega
              _ = A' * B * 2 ^ (e' - e).toNat * 2 ^ (e - e0).toNat := by rw [Nat.pow_add]; ac_rfl
        rw [hR, hR'] at same
        rw [same] at hlt
        exact absurd hlt (Nat.lt_irrefl _)
      · rw [hR, hR'] at hlt
        exact absurd (own_zlt (by rw [hR] at fR; exact fR)) (Nat.not_lt.mpr (Nat.le_of_lt hlt))
    · have t1 := (roundRatio_inf good_b64 hB h0 h0e).mp hR
      have t2 : roundRatio b64 false A' B' e' = .inf false := by
        refine (roundRatio_inf good_b64 hB' h0 h0e').mpr ?_
        generalize (2 ^ (b64.p + 1) - 1) * 2 ^ (b64.qmax - 1 - e0).toNat = Y at *
        refine Nat.le_of_mul_le_mul_right (c := B) ?_ hB
        calc Y * B' * B = Y * B * B' := by ac_rfl
          _ ≤ inUnits A e e0 * B' := Nat.mul_le_mul_right _ t1
          _ ≤ inUnits A' e' e0 * B := h
      rw [hR, t2] at hlt
      exact absurd hlt (Nat.lt_irrefl _)
  · exact hge
/-- what the operations round, in units: (A / B) * 2^e -/
theorem own_vdiv {a b : UInt64} {x y : Nat} (ha : NN a x) (hb : NN b y) (hy : 0 < y) : val64 (Jvm.FP.ddiv a b) = roundRatio b64 false x y 0 := by
  obtain ⟨c, q, h1, h2⟩ := ha
  obtain ⟨d, r, h3, h4⟩ := hb
  obtain ⟨-, q1, q2, -⟩ := own_fit h1
  obtain ⟨-, r1, r2, -⟩ := own_fit h3
  have hd : d ≠ 0 := by rintro rfl; rw [Nat.zero_mul] at h4; omega
  have hv : val64 (Jvm.FP.Core.ddiv a b) = roundRatio b64 false c d (q - r) := by
    rw [val64_ddiv, h1, h3]; show (if d = 0 then _ else _) = _; rw [if_neg hd]; rfl
  rw [show val64 (Jvm.FP.ddiv a b) = _ from hv]
  refine roundRatio_congr (by omega) hy ?_
  rw [← h2, ← h4]
  rcases Int.le_total r q with g | g
  · rw [show (0 - (q - r)).toNat = 0 by omega, Nat.pow_zero, Nat.mul_one, show (q - r - 0).toNat = (q - r).toNat by rw [Int.sub_zero]]
    calc c * (d * 2 ^ (r + 1074).toNat) * 2 ^ (q - r).toNat = c * d * 2 ^ ((r + 1074).toNat + (q - r).toNat) := by rw [Nat.pow_add]; ac_rfl
      _ = c * d * 2 ^ (q + 1074).toNat := by congr 2; omega
      _ = c * 2 ^ (q + 1074).toNat * d := by ac_rfl
  · rw [show (q - r - 0).toNat = 0 by omega, Nat.pow_zero, Nat.mul_one]
    calc c * (d * 2 ^ (r + 1074).toNat) = c * d * 2 ^ (r + 1074).toNat := by ac_rfl
      _ = c * d * 2 ^ ((q + 1074).toNat + (0 - (q - r)).toNat) := by congr 2; omega
      _ = c * 2 ^ (q + 1074).toNat * d * 2 ^ (0 - (q - r)).toNat := by rw [Nat.pow_add]; ac_rfl
theorem own_div_mono {a b a' b' : UInt64} {x y x' y' z z' : Nat} (ha : NN a x) (hb : NN b y) (ha' : NN a' x') (hb' : NN b' y') (hy : 0 < y) (hy' : 0 < y') (h : x * y' ≤ x' * y) (hz : NN (Jvm.FP.ddiv a b) z) (hz' : NN (Jvm.FP.ddiv a' b') z') : z ≤ z' := by
  rw [← hz.zmag, ← hz'.zmag, own_vdiv ha hb hy, own_vdiv ha' hb' hy']
  refine own_mono hy hy' (e0 := -2148) (by rw [qmin_b64]; omega) (by omega) (by omega) ?_
  unfold inUnits
  calc x * 2 ^ (0 - (-2148) : Int).toNat * y' = x * y' * 2 ^ (0 - (-2148) : Int).toNat := by generalize (2 : Nat) ^ (0 - (-2148) : Int).toNat = A5; ac_rfl
    _ ≤ x' * y * 2 ^ (0 - (-2148) : Int).toNat := Nat.mul_le_mul_right _ h
    _ = x' * 2 ^ (0 - (-2148) : Int).toNat * y := by generalize (2 : Nat) ^ (0 - (-2148) : Int).toNat = A5; ac_rfl
theorem own_vmul {a b : UInt64} {x y : Nat} (ha : NN a x) (hb : NN b y) : val64 (Jvm.FP.dmul a b) = roundRatio b64 false (x * y) 1 (-2148) := by
  obtain ⟨c, q, h1, h2⟩ := ha
  obtain ⟨d, r, h3, h4⟩ := hb
  obtain ⟨-, q1, q2, f1⟩ := own_fit h1
  obtain ⟨-, r1, r2, f2⟩ := own_fit h3
  have hv : val64 (Jvm.FP.Core.dmul a b) = roundRatio b64 false (c * d) 1 (q + r) := by
    rw [val64_dmul, h1, h3, (product_units f1 f2).1]; rfl
  rw [show val64 (Jvm.FP.dmul a b) = _ from hv]
  refine roundRatio_congr (by omega) (by omega) ?_
  rw [show (-2148 - (q + r)).toNat = 0 by omega, Nat.pow_zero, Nat.mul_one, Nat.mul_one, Nat.mul_one, ← h2, ← h4]
  calc c * d * 2 ^ (q + r - -2148).toNat = c * d * 2 ^ ((q + 1074).toNat + (r + 1074).toNat) := by congr 2; omega
    _ = c * 2 ^ (q + 1074).toNat * (d * 2 ^ (r + 1074).toNat) := by rw [Nat.pow_add]; ac_rfl
theorem own_mul_mono {a b a' b' : UInt64} {x y x' y' z z' : Nat} (ha : NN a x) (hb : NN b y) (ha' : NN a' x') (hb' : NN b' y') (h : x * y ≤ x' * y') (hz : NN (Jvm.FP.dmul a b) z) (hz' : NN (Jvm.FP.dmul a' b') z') : z ≤ z' := by
  rw [← hz.zmag, ← hz'.zmag, own_vmul ha hb, own_vmul ha' hb']
  refine own_mono (by omega) (by omega) (e0 := -2148) (by rw [qmin_b64]; omega) (by omega) (by omega) ?_
  rw [Nat.mul_one, Nat.mul_one]
  unfold inUnits
  exact Nat.mul_le_mul_right _ h
/-- a difference that is not below nought -/
theorem own_vsub {a b : UInt64} {x y : Nat} (ha : NN a x) (hb : NN b y) (h : y ≤ x) : val64 (Jvm.FP.dsub a b) = roundRatio b64 false (x - y) 1 (-1074) := by
  obtain ⟨c, q, h1, h2⟩ := ha
  obtain ⟨d, r, h3, h4⟩ := hb
  obtain ⟨-, q1, q2, f1⟩ := own_fit h1
  obtain ⟨-, r1, r2, f2⟩ := own_fit h3
  have hv : val64 (Jvm.FP.Core.dsub a b) = round b64 (exactSum (.fin false c q) (.fin true d r)) := by
    rw [val64_dsub, h1, h3]; rfl
  have hu : sumUnits false c q true d r (min q r) = (inUnits c q (min q r) : Int) - (inUnits d r (min q r) : Int) := by
    unfold sumUnits signed; rfl
  have e1 : x = inUnits c q (min q r) * 2 ^ (min q r + 1074).toNat := by
    rw [← h2]; unfold inUnits; rw [Nat.mul_assoc, ← Nat.pow_add]; congr 2; omega
  have e2 : y = inUnits d r (min q r) * 2 ^ (min q r + 1074).toNat := by
    rw [← h4]; unfold inUnits; rw [Nat.mul_assoc, ← Nat.pow_add]; congr 2; omega
  have hle : inUnits d r (min q r) ≤ inUnits c q (min q r) := by
    rw [e1, e2] at h; exact Nat.le_of_mul_le_mul_right h (Nat.two_pow_pos _)
  have hs : exactSum (.fin false c q) (.fin true d r) = .fin false (inUnits c q (min q r) - inUnits d r (min q r)) (min q r) := by
    show Datum.fin (sumSign false true (sumUnits false c q true d r (min q r))) (sumUnits false c q true d r (min q r)).natAbs (min q r) = _
    rw [hu]
    have s1 : sumSign false true ((inUnits c q (min q r) : Int) - (inUnits d r (min q r) : Int)) = false := by
      unfold sumSign; split
      · rfl
      · simp; omega
    rw [s1]
    congr 1; omega
  rw [show val64 (Jvm.FP.dsub a b) = _ from hv, hs]
  show roundRatio b64 false _ 1 (min q r) = _
  refine roundRatio_congr (by omega) (by omega) ?_
  rw [show (-1074 - min q r).toNat = 0 by omega, Nat.pow_zero, Nat.mul_one, Nat.mul_one, Nat.mul_one, e1, e2, ← Nat.sub_mul]
  congr 2
/-- the difference likewise -/
theorem own_dsub {a b : UInt64} {x y : Nat} (ha : NN a x) (hb : NN b y) (h : y ≤ x) :
    ∃ z, NN (Jvm.FP.dsub a b) z ∧ (∀ V v, NN V v → x - y ≤ v → z ≤ v) ∧ (∀ V v, NN V v → v ≤ x - y → v ≤ z) := by
  have hv := own_vsub ha hb h
  have e1 : inUnits (x - y) (-1074) b64.qmin = x - y := by rw [own_inU]; rw [show ((-1074 : Int) + 1074).toNat = 0 from rfl, Nat.pow_zero, Nat.mul_one]
  have e2 : ∀ v : Nat, v * 2 ^ (b64.qmin - b64.qmin).toNat * 1 = v := by intro v; rw [Int.sub_self]; show v * 1 * 1 = v; omega
  have le : ∀ V v, NN V v → x - y ≤ v → Jvm.FP.Core.zmag b64 (roundRatio b64 false (x - y) 1 (-1074)) ≤ v := by
    intro V v hV h
    have k := zmag_roundRatio_le good_b64 (s := false) (A := x - y) (B := 1) (e := -1074) (e0 := b64.qmin) (V := val64 V) (by omega) (val64_fits V) hV.ne (Int.le_refl _) (by rw [qmin_b64]; omega) (by rw [e1, e2, hV.zmag]; exact h)
    rw [hV.zmag] at k; exact k
  have ge : ∀ V v, NN V v → v ≤ x - y → v ≤ Jvm.FP.Core.zmag b64 (roundRatio b64 false (x - y) 1 (-1074)) := by
    intro V v hV h
    have k := zmag_roundRatio_ge good_b64 (s := false) (A := x - y) (B := 1) (e := -1074) (e0 := b64.qmin) (V := val64 V) (by omega) (val64_fits V) (Int.le_refl _) (by rw [qmin_b64]; omega) (by rw [e1, e2, hV.zmag]; exact h)
    rw [hV.zmag] at k; exact k
  have fin : DFin (Jvm.FP.dsub a b) := by
    refine own_fin_of_le (V := val64 a) ?_ (val64_fits a) ha.vf ?_
    · rw [hv]; exact roundRatio_ne_nan _ _ _ _ _
    · rw [hv, ha.zmag]; exact le a x ha (by omega)
  have sg : Jvm.FP.Core.sgn (val64 (Jvm.FP.dsub a b)) = false := by rw [hv]; exact sgn_roundRatio _ _ _ _ _
  refine ⟨_, NN.of fin sg, ?_, ?_⟩
  · intro V v hV h; rw [hv]; exact le V v hV h
  · intro V v hV h; rw [hv]; exact ge V v hV h
theorem own_sub_mono {a b a' b' : UInt64} {x y x' y' z z' : Nat} (ha : NN a x) (hb : NN b y) (ha' : NN a' x') (hb' : NN b' y') (h1 : y ≤ x) (h1' : y' ≤ x') (h : x - y ≤ x' - y') (hz : NN (Jvm.FP.dsub a b) z) (hz' : NN (Jvm.FP.dsub a' b') z') : z ≤ z' := by
  rw [← hz.zmag, ← hz'.zmag, own_vsub ha hb h1, own_vsub ha' hb' h1']
  refine own_mono (by omega) (by omega) (e0 := -2148) (by rw [qmin_b64]; omega) (by omega) (by omega) ?_
  rw [Nat.mul_one, Nat.mul_one]
  unfold inUnits
  exact Nat.mul_le_mul_right _ h
/-- a double is what its value says -/
theorem NN.uniq {a b : UInt64} {z : Nat} (ha : NN a z) (hb : NN b z) : a = b := by
  have h1 := (dcmp_eq_key ha.ne hb.ne).mp (ha.eq hb rfl)
  have s1 := sgn_bits ha.ne
  have s2 := sgn_bits hb.ne
  rw [ha.sgn] at s1
  rw [hb.sgn] at s2
  have t1 : ¬ 2 ^ 63 ≤ a.toNat := of_decide_eq_false s1.symm
  have t2 : ¬ 2 ^ 63 ≤ b.toNat := of_decide_eq_false s2.symm
  unfold dkey at h1
  rw [if_neg t1, if_neg t2] at h1
  exact UInt64.toNat_inj.mp (by omega)
end Mono

end Jvm.Pilot.@@N@@
namespace Jvm.Pilot.@@N@@
open Jvm Jvm.ClassFile Sem Op Lib Jvm.Free Jvm.Stand Jvm.LawKit Jvm.RoadKit Bundle Jvm.Pilot.@@N@@.Jvm.D
/-- the run comes from the state A to an end of which P holds -/
def Ends (p : Program) (e : Env) (below : List Frame) (P : State → Outcome → Prop) (A : State) : Prop := ∃ t o, Steps p.tables e below A t ∧ t.status = .running ∧ Ended t below o ∧ P t o
theorem Ends.pre {p : Program} {e : Env} {below : List Frame} {P : State → Outcome → Prop} {A B : State} (h : ∀ t, Steps p.tables e below B t → Steps p.tables e below A t) (k : Ends p e below P B) : Ends p e below P A := by
  obtain ⟨t, o, h1, h2⟩ := k
  exact ⟨t, o, h t h1, h2⟩
theorem own_sta_keep0 {Z : State} {h h' : Heap} {C n d : String} {v : Value} (F : Sta Z h C n d v) (K : Keep h h' []) : Sta Z h' C n d v := by
  obtain ⟨cf, i, k, f, st, cell, h1, h2, h3, h4, h5, h6, h7⟩ := F
  exact ⟨cf, i, k, f, st, cell, h1, h2, h3, h4, K.2.1 _ _ h5 nin0, h6, h7⟩
theorem own_sta_keep1 {Z : State} {h h' : Heap} {C n d : String} {v : Value} {b : Addr} {C' : String} (F : Sta Z h C n d v) (K : Keep h h' [b]) (E : Exa Z h b C') : Sta Z h' C n d v := by
  obtain ⟨cf, i, k, f, st, cell, h1, h2, h3, h4, h5, h6, h7⟩ := F
  obtain ⟨c2, k2, g1, g2, g3, g4, g5⟩ := E
  have ne : st ≠ b := fun q => by subst q; cases h5.symm.trans g1; rw [h6] at g4; cases g4
  exact ⟨cf, i, k, f, st, cell, h1, h2, h3, h4, K.2.1 _ _ h5 (ninS ne nin0), h6, h7⟩

def own_qw (q : Int32) (k3 idf : UInt64) : UInt64 := FP.dmul (FP.dsub (FP.i2d q) (FP.ddiv (FP.dmul (FP.i2d q) (FP.i2d (q - 1))) (FP.dadd k3 (FP.i2d q)))) idf
/-- no step on the way is a NaN -/
def own_ok (q : Int32) (k3 idf : UInt64) : Prop := Jvm.Free.Fl.NoNaN64 (FP.dmul (FP.i2d q) (FP.i2d (q - 1))) ∧ Jvm.Free.Fl.NoNaN64 (FP.dadd k3 (FP.i2d q)) ∧ Jvm.Free.Fl.NoNaN64 (FP.ddiv (FP.dmul (FP.i2d q) (FP.i2d (q - 1))) (FP.dadd k3 (FP.i2d q))) ∧ Jvm.Free.Fl.NoNaN64 (FP.dsub (FP.i2d q) (FP.ddiv (FP.dmul (FP.i2d q) (FP.i2d (q - 1))) (FP.dadd k3 (FP.i2d q)))) ∧ Jvm.Free.Fl.NoNaN64 (own_qw q k3 idf)
theorem own_zero_nn : NN FP.dconst0 0 := ⟨0, _, Jvm.FP.Core.val64_dconst0, Nat.zero_mul _⟩
theorem own_one_nn : NN FP.dconst1 (1 * 2 ^ 1074) := by
  refine ⟨2 ^ 52, -52, Jvm.FP.Core.val64_dconst1, ?_⟩
  rw [show ((-52 : Int) + 1074).toNat = 1022 from rfl, ← Nat.pow_add, Nat.one_mul]
theorem NN.fin64 {a : UInt64} {z : Nat} (h : NN a z) : Jvm.Free.Fl.Fin64 a := Jvm.Free.Fl.fin64_core.mpr h.fin
theorem own_m1 {q : Int32} {n : Nat} (h : q.toInt = n) (h1 : 1 ≤ n) : (q - 1).toInt = ((n - 1 : Nat) : Int) := by
  have r := rng32 q; have c := c_isub q 1; have r2 := rng32 (q - 1)
  rw [h, show (1 : Int32).toInt = 1 from by decide] at c; omega
/-- the product of two whole doubles where it is exact -/
theorem own_pr {a b : UInt64} {i j : Nat} (ha : NN a (i * 2 ^ 1074)) (hb : NN b (j * 2 ^ 1074)) (h : i * j < 2 ^ 53) : NN (FP.dmul a b) (i * j * 2 ^ 1074) := by
  obtain ⟨V, v⟩ := own_nat h
  have e : i * 2 ^ 1074 * (j * 2 ^ 1074) = i * j * 2 ^ 1074 * 2 ^ 1074 := by (try generalize (2 : Nat) ^ 1074 = A1); (try generalize (2 : Nat) ^ 1073 = A2); (try generalize (2 : Nat) ^ 1042 = A3); (try generalize (2 : Nat) ^ 2045 = A4); (try generalize (2 : Nat) ^ (0 - (-2148) : Int).toNat = A5); ac_rfl
  obtain ⟨z, hz, le, ge⟩ := own_dmul ha hb v (Nat.le_of_eq e)
  have h3 := le V _ v (Nat.le_of_eq e)
  have h4 := ge V _ v (Nat.le_of_eq e.symm)
  rw [← Nat.le_antisymm h3 h4]; exact hz
theorem own_P {q : Int32} {n : Nat} (h : q.toInt = n) (h1 : 1 ≤ n) (h2 : n ≤ 2 ^ 26) : NN (FP.dmul (FP.i2d q) (FP.i2d (q - 1))) (n * (n - 1) * 2 ^ 1074) := by
  refine own_pr (own_i2d h) (own_i2d (own_m1 h h1)) ?_
  have : n * (n - 1) ≤ 2 ^ 26 * 2 ^ 26 := Nat.mul_le_mul h2 (by omega)
  omega
/-- the product in general: below 2^62 -/
theorem own_Pb {q : Int32} {n : Nat} (h : q.toInt = n) (h1 : 1 ≤ n) : ∃ p, NN (FP.dmul (FP.i2d q) (FP.i2d (q - 1))) p ∧ p ≤ 2 ^ 62 * 2 ^ 1074 := by
  have r := rng32 q
  obtain ⟨V, v⟩ := own_rep (c := 1) (k := 1136) (by omega) (by omega)
  have e1 : 1 * 2 ^ 1136 = 2 ^ 62 * (2 : Nat) ^ 1074 := by rw [Nat.one_mul, ← Nat.pow_add]
  rw [e1] at v
  have hle : n * 2 ^ 1074 * ((n - 1) * 2 ^ 1074) ≤ 2 ^ 62 * 2 ^ 1074 * 2 ^ 1074 := by
    calc n * 2 ^ 1074 * ((n - 1) * 2 ^ 1074) = n * (n - 1) * (2 ^ 1074 * 2 ^ 1074) := by (try generalize (2 : Nat) ^ 1074 = A1); (try generalize (2 : Nat) ^ 1073 = A2); (try generalize (2 : Nat) ^ 1042 = A3); (try generalize (2 : Nat) ^ 2045 = A4); (try generalize (2 : Nat) ^ (0 - (-2148) : Int).toNat = A5); ac_rfl
      _ ≤ 2 ^ 62 * (2 ^ 1074 * 2 ^ 1074) := Nat.mul_le_mul_right _ (by
          have : n * (n - 1) ≤ 2 ^ 31 * 2 ^ 31 := Nat.mul_le_mul (by omega) (by omega)
          omega)
      _ = 2 ^ 62 * 2 ^ 1074 * 2 ^ 1074 := (Nat.mul_assoc _ _ _).symm
  obtain ⟨z, hz, le, -⟩ := own_dmul (own_i2d h) (own_i2d (own_m1 h h1)) v hle
  exact ⟨z, hz, le V _ v hle⟩
/-- whole k3: the divisor -/
theorem own_D {q : Int32} {K : Int64} {n k : Nat} (h : q.toInt = n) (hk : K.toInt = k) (hk2 : k ≤ 2 ^ 52) : NN (FP.dadd (FP.l2d K) (FP.i2d q)) ((k + n) * 2 ^ 1074) := by
  have r := rng32 q
  rw [i2d_w, show FP.dadd (FP.l2d K) (FP.l2d q.toInt64) = FP.l2d (K + q.toInt64) from Jvm.FP.Core.dadd_l2d ⟨by omega, by omega⟩ ⟨by rw [c_i2l]; omega, by rw [c_i2l]; omega⟩]
  have c := c_ladd K q.toInt64
  have r2 := rng64 (K + q.toInt64)
  rw [c_i2l] at c
  exact own_l2d (by omega) (by omega)
/-- the weight lies between 1 and q -/
theorem own_w {q : Int32} {P D : UInt64} {n p y : Nat} (h : q.toInt = n) (h1 : 1 ≤ n) (hn : n ≤ 2 ^ 31) (hP : NN P p) (hD : NN D y) (hy : 0 < y) (hs : p * 2 ^ 1074 ≤ (n - 1) * 2 ^ 1074 * y) :
    ∃ s w, NN (FP.ddiv P D) s ∧ s ≤ (n - 1) * 2 ^ 1074 ∧ NN (FP.dsub (FP.i2d q) (FP.ddiv P D)) w ∧ 1 * 2 ^ 1074 ≤ w ∧ w ≤ n * 2 ^ 1074 ∧ (s = (n - 1) * 2 ^ 1074 → w = 1 * 2 ^ 1074) := by
  obtain ⟨V, v⟩ := own_nat (n := n - 1) (by omega)
  obtain ⟨s, hs1, le, -⟩ := own_ddiv hP hD hy v hs
  have hsl := le V _ v hs
  have hq := own_i2d h
  have hle : s ≤ n * 2 ^ 1074 := Nat.le_trans hsl (Nat.mul_le_mul_right _ (by omega))
  obtain ⟨w, hw, wle, wge⟩ := own_dsub hq hs1 hle
  have e : n * 2 ^ 1074 - (n - 1) * 2 ^ 1074 = 1 * 2 ^ 1074 := by rw [← Nat.sub_mul]; congr 1; omega
  refine ⟨s, w, hs1, hsl, hw, wge _ _ own_one_nn (by omega), wle _ _ hq (by omega), fun hsq => ?_⟩
  exact Nat.le_antisymm (wle _ _ own_one_nn (by omega)) (wge _ _ own_one_nn (by omega))
theorem own_okF {q : Int32} {k3 idf : UInt64} {p y s w : Nat} (hP : NN (FP.dmul (FP.i2d q) (FP.i2d (q - 1))) p) (hD : NN (FP.dadd k3 (FP.i2d q)) y) (hs : NN (FP.ddiv (FP.dmul (FP.i2d q) (FP.i2d (q - 1))) (FP.dadd k3 (FP.i2d q))) s) (hw : NN (FP.dsub (FP.i2d q) (FP.ddiv (FP.dmul (FP.i2d q) (FP.i2d (q - 1))) (FP.dadd k3 (FP.i2d q)))) w) (hi : Jvm.Free.Fl.Fin64 idf) : own_ok q k3 idf :=
  ⟨hP.noNaN, hD.noNaN, hs.noNaN, hw.noNaN, Jvm.Free.Fl.dmul_out hw.fin64 hi⟩
theorem own_1mul {a : UInt64} (h : Jvm.Free.Fl.Fin64 a) : FP.dmul FP.dconst1 a = a := by
  show Jvm.FP.Core.dmul Jvm.FP.Core.dconst1 a = a
  rw [Jvm.FP.Core.dmul_comm]
  exact Jvm.FP.Core.dmul_one (Jvm.FP.Core.DFin.ne_nan (Jvm.Free.Fl.fin64_core.mp h))
/-- k3 = 0 -/
theorem own_mode0 {q : Int32} {idf : UInt64} {n : Nat} (h : q.toInt = n) (h1 : 1 ≤ n) (h2 : n ≤ 2 ^ 26) (hi : Jvm.Free.Fl.Fin64 idf) : own_ok q FP.dconst0 idf ∧ own_qw q FP.dconst0 idf = idf := by
  have hP := own_P h h1 h2
  have hD := own_D (K := 0) (k := 0) h (by decide) (by omega)
  rw [show FP.l2d 0 = FP.dconst0 from l2d_zero, Nat.zero_add] at hD
  have hy : 0 < n * 2 ^ 1074 := Nat.mul_pos h1 (Nat.two_pow_pos _)
  have e : n * (n - 1) * 2 ^ 1074 * 2 ^ 1074 = (n - 1) * 2 ^ 1074 * (n * 2 ^ 1074) := by (try generalize (2 : Nat) ^ 1074 = A1); (try generalize (2 : Nat) ^ 1073 = A2); (try generalize (2 : Nat) ^ 1042 = A3); (try generalize (2 : Nat) ^ 2045 = A4); (try generalize (2 : Nat) ^ (0 - (-2148) : Int).toNat = A5); ac_rfl
  obtain ⟨s, w, hs, sle, hw, -, -, hw1⟩ := own_w h h1 (by omega) hP hD hy (Nat.le_of_eq e)
  obtain ⟨V, v⟩ := own_nat (n := n - 1) (by omega)
  obtain ⟨s', hs', -, ge⟩ := own_ddiv hP hD hy v (Nat.le_of_eq e)
  have e2 : s = s' := hs.inj hs'
  have e3 := hw1 (Nat.le_antisymm sle (e2 ▸ ge V _ v (Nat.le_of_eq e.symm)))
  rw [e3] at hw
  refine ⟨own_okF hP hD hs hw hi, ?_⟩
  unfold own_qw
  rw [hw.uniq own_one_nn, own_1mul hi]
/-- k3 = q (q - 2) -/
theorem own_mode3 {q : Int32} {idf : UInt64} {n : Nat} (h : q.toInt = n) (h1 : 2 ≤ n) (h2 : n ≤ 2 ^ 26) (hi : Jvm.Free.Fl.Fin64 idf) :
    (∃ z, NN (FP.dmul (FP.i2d q) (FP.i2d (q - 2))) z) ∧ own_ok q (FP.dmul (FP.i2d q) (FP.i2d (q - 2))) idf ∧ own_qw q (FP.dmul (FP.i2d q) (FP.i2d (q - 2))) idf = FP.dmul (FP.i2d (q - 1)) idf := by
  have hm2 : (q - 2).toInt = ((n - 2 : Nat) : Int) := by
    have r := rng32 q; have c := c_isub q 2; have r2 := rng32 (q - 2)
    rw [h, show (2 : Int32).toInt = 2 from by decide] at c; omega
  have hb : n * (n - 2) ≤ 2 ^ 26 * 2 ^ 26 := Nat.mul_le_mul h2 (by omega)
  have hk := own_pr (own_i2d h) (own_i2d hm2) (by omega)
  have hP := own_P h (by omega) h2
  -- the same double as a whole number
  have hK : (Int64.ofNat (n * (n - 2))).toInt = ((n * (n - 2) : Nat) : Int) := Int64.toInt_ofNat_of_lt (by omega)
  have eK : FP.dmul (FP.i2d q) (FP.i2d (q - 2)) = FP.l2d (Int64.ofNat (n * (n - 2))) := hk.uniq (own_l2d hK (by omega))
  have hD := own_D (K := Int64.ofNat (n * (n - 2))) h hK (by omega)
  rw [← eK] at hD
  have e1 : n * (n - 2) + n = n * (n - 1) := by
    rw [show n - 1 = (n - 2) + 1 by omega, Nat.mul_add, Nat.mul_one]
  rw [e1] at hD
  have hpos : 0 < n * (n - 1) := Nat.mul_pos (by omega) (by omega)
  have hy : 0 < n * (n - 1) * 2 ^ 1074 := Nat.mul_pos hpos (Nat.two_pow_pos _)
  have e : n * (n - 1) * 2 ^ 1074 * 2 ^ 1074 = 1 * 2 ^ 1074 * (n * (n - 1) * 2 ^ 1074) := by rw [Nat.one_mul]; exact Nat.mul_comm _ _
  obtain ⟨s, hs, le, ge⟩ := own_ddiv hP hD hy own_one_nn (Nat.le_of_eq e)
  have es : s = 1 * 2 ^ 1074 := Nat.le_antisymm (le _ _ own_one_nn (Nat.le_of_eq e)) (ge _ _ own_one_nn (Nat.le_of_eq e.symm))
  have hq := own_i2d h
  have hle : s ≤ n * 2 ^ 1074 := by rw [es]; exact Nat.mul_le_mul_right _ (by omega)
  obtain ⟨w, hw, wle, wge⟩ := own_dsub hq hs hle
  have ew : n * 2 ^ 1074 - s = (n - 1) * 2 ^ 1074 := by rw [es, ← Nat.sub_mul]
  have hm1 := own_i2d (own_m1 h (by omega))
  have e3 : w = (n - 1) * 2 ^ 1074 := Nat.le_antisymm (wle _ _ hm1 (by omega)) (wge _ _ hm1 (by omega))
  rw [e3] at hw
  refine ⟨⟨_, hk⟩, own_okF hP hD hs hw hi, ?_⟩
  unfold own_qw
  rw [hw.uniq hm1]
/-- a tiny subtrahend is lost -/
theorem own_lost {q : Int32} {S : UInt64} {n s : Nat} (h : q.toInt = n) (h1 : 1 ≤ n) (hS : NN S s) (hs : s ≤ 2 ^ 113) : FP.dsub (FP.i2d q) S = FP.i2d q := by
  have hq := own_i2d h
  have hM : (2 : Nat) ^ 1074 ≤ n * 2 ^ 1074 := by
    calc (2 : Nat) ^ 1074 = 1 * 2 ^ 1074 := (Nat.one_mul _).symm
      _ ≤ n * 2 ^ 1074 := Nat.mul_le_mul_right _ h1
  have g1 : (2 : Nat) ^ 114 ≤ 2 ^ 1020 := Nat.pow_le_pow_right (by omega) (by omega)
  have g2 : (2 : Nat) ^ 1073 + 2 ^ 1020 ≤ 2 ^ 1074 := by
    have e : (2 : Nat) ^ 1074 = 2 * 2 ^ 1073 := by rw [← Nat.pow_succ']
    have : (2 : Nat) ^ 1020 ≤ 2 ^ 1073 := Nat.pow_le_pow_right (by omega) (by omega)
    omega
  have hle : s ≤ n * 2 ^ 1074 := by
    have : (2 : Nat) ^ 113 ≤ 2 ^ 1074 := Nat.pow_le_pow_right (by omega) (by omega)
    omega
  obtain ⟨w, hw, wle, -⟩ := own_dsub hq hS hle
  have hwle := wle _ _ hq (by omega)
  have hv := own_vsub hq hS hle
  have hw' := hw
  obtain ⟨c, x, hc1, hc2⟩ := hw'
  obtain ⟨cl, x1, x2, -⟩ := own_fit hc1
  have hR : Jvm.FP.Core.roundRatio Jvm.FP.Core.b64 false (n * 2 ^ 1074 - s) 1 (-1074) = .fin false c x := by rw [← hv]; exact hc1
  have hq' := hq
  obtain ⟨cq, xq, hq1, hq2⟩ := hq'
  obtain ⟨cql, xq1, xq2, -⟩ := own_fit hq1
  have hd := Jvm.FP.Core.roundRatio_nearest Jvm.FP.Core.good_b64 (by omega) hR (c' := cq) (q' := xq) cql (by rw [Jvm.FP.Core.qmin_b64]; exact xq1) (e0 := Jvm.FP.Core.b64.qmin) (Int.le_refl _) (by rw [Jvm.FP.Core.qmin_b64]; omega)
  unfold Jvm.FP.Core.distance at hd
  rw [own_inU, own_inU, own_inU, hc2, hq2, show ((-1074 : Int) + 1074).toNat = 0 from rfl, Nat.pow_zero, Nat.mul_one] at hd
  have hk : 1021 ≤ (x + 1074).toNat := by
    rcases Nat.lt_or_ge (x + 1074).toNat 1021 with k | k
    · exfalso
      have p1 : c * 2 ^ (x + 1074).toNat ≤ 2 ^ 53 * 2 ^ 1020 := Nat.mul_le_mul (by omega) (Nat.pow_le_pow_right (by omega) (by omega))
      rw [hc2, ← Nat.pow_add] at p1
      have p2 : (2 : Nat) ^ (53 + 1020) = 2 ^ 1073 := rfl
      have : 2 ^ 113 + 2 ^ 113 = (2 : Nat) ^ 114 := by rw [← Nat.two_mul, ← Nat.pow_succ']
      -- c has less than 53 digits, so the product is smaller
      have p3 : c * 2 ^ (x + 1074).toNat < 2 ^ 53 * 2 ^ (x + 1074).toNat := Nat.mul_lt_mul_of_pos_right cl (Nat.two_pow_pos _)
      have p4 : 2 ^ 53 * 2 ^ (x + 1074).toNat ≤ 2 ^ 53 * (2 : Nat) ^ 1020 := Nat.mul_le_mul_left _ (Nat.pow_le_pow_right (by omega) (by omega))
      rw [← Nat.pow_add 2 53 1020, p2] at p4
      rw [hc2] at p3
      generalize (2 : Nat) ^ 1074 = A at *
      generalize (2 : Nat) ^ 1073 = B at *
      generalize (2 : Nat) ^ 1020 = E at *
      generalize (2 : Nat) ^ 114 = F at *
      generalize (2 : Nat) ^ 113 = G at *
      generalize n * A = X at *
      omega
    · exact k
  have d1 : 2 ^ 1020 ∣ w := by
    rw [← hc2]
    exact Nat.dvd_trans (Nat.pow_dvd_pow 2 (by omega)) (Nat.dvd_mul_left _ _)
  have d2 : 2 ^ 1020 ∣ n * 2 ^ 1074 := Nat.dvd_trans (Nat.pow_dvd_pow 2 (by omega)) (Nat.dvd_mul_left _ _)
  have d3 : 2 ^ 1020 ∣ n * 2 ^ 1074 - w := Nat.dvd_sub d2 d1
  have e : n * 2 ^ 1074 - w = 0 := by
    refine Nat.eq_zero_of_dvd_of_lt d3 ?_
    have : 2 ^ 113 + 2 ^ 113 = (2 : Nat) ^ 114 := by rw [← Nat.two_mul, ← Nat.pow_succ']
    have p5 : (2 : Nat) ^ 114 < 2 ^ 1020 := Nat.pow_lt_pow_right (by omega) (by omega)
    generalize (2 : Nat) ^ 1020 = E at *
    generalize (2 : Nat) ^ 114 = F at *
    generalize (2 : Nat) ^ 113 = G at *
    generalize n * 2 ^ 1074 = X at *
    omega
  have ew : w = n * 2 ^ 1074 := by omega
  rw [ew] at hw
  exact hw.uniq hq
/-- k3 infinite or the greatest finite one: the quotient is lost -/
theorem own_mode12 {q : Int32} {k3 idf : UInt64} {n : Nat} (h : q.toInt = n) (h1 : 1 ≤ n) (hi : Jvm.Free.Fl.Fin64 idf)
    (hD : Jvm.FP.Core.val64 (FP.dadd k3 (FP.i2d q)) = .inf false ∨ ∃ y, NN (FP.dadd k3 (FP.i2d q)) y ∧ 2 ^ 2097 ≤ y) :
    own_ok q k3 idf ∧ own_qw q k3 idf = FP.dmul (FP.i2d q) idf := by
  obtain ⟨p, hP, hp⟩ := own_Pb h h1
  obtain ⟨s, hs, hsl⟩ : ∃ s, NN (FP.ddiv (FP.dmul (FP.i2d q) (FP.i2d (q - 1))) (FP.dadd k3 (FP.i2d q))) s ∧ s ≤ 2 ^ 113 := by
    rcases hD with hD | ⟨y, hD, hy⟩
    · refine ⟨0, ?_, Nat.zero_le _⟩
      obtain ⟨c, x, hc, -⟩ := hP
      refine ⟨0, Jvm.FP.Core.b64.qmin, ?_, Nat.zero_mul _⟩
      show Jvm.FP.Core.val64 (Jvm.FP.Core.ddiv _ _) = _
      rw [Jvm.FP.Core.val64_ddiv, hD, hc]; rfl
    · obtain ⟨V, v⟩ := own_rep (c := 1) (k := 113) (by omega) (by omega)
      rw [Nat.one_mul] at v
      have hle : p * 2 ^ 1074 ≤ 2 ^ 113 * y := by
        calc p * 2 ^ 1074 ≤ 2 ^ 62 * 2 ^ 1074 * 2 ^ 1074 := Nat.mul_le_mul_right _ hp
          _ = 2 ^ 113 * 2 ^ 2097 := by rw [← Nat.pow_add, ← Nat.pow_add, ← Nat.pow_add]
          _ ≤ 2 ^ 113 * y := Nat.mul_le_mul_left _ hy
      have hy0 : 0 < y := Nat.lt_of_lt_of_le (Nat.two_pow_pos 2097) hy
      obtain ⟨s, hs, le, -⟩ := own_ddiv hP hD hy0 v hle
      exact ⟨s, hs, le V _ v hle⟩
  have hw := own_lost h h1 hs hsl
  have hDn : Jvm.Free.Fl.NoNaN64 (FP.dadd k3 (FP.i2d q)) := by
    rw [Jvm.Free.Fl.noNaN64_iff]
    refine (Jvm.FP.Core.ne_nan _).mp ?_
    rcases hD with hD | ⟨y, hD, -⟩
    · rw [hD]; exact fun k => by cases k
    · exact hD.ne
  refine ⟨⟨hP.noNaN, hDn, hs.noNaN, by rw [hw]; exact (own_i2d h).noNaN, ?_⟩, ?_⟩
  · unfold own_qw; rw [hw]; exact Jvm.Free.Fl.dmul_out (Jvm.Free.Fl.i2d_fin q) hi
  · unfold own_qw; rw [hw]
theorem own_D1 {q : Int32} {n : Nat} (h : q.toInt = n) : Jvm.FP.Core.val64 (FP.dadd (9218868437227405312 : UInt64) (FP.i2d q)) = .inf false := by
  obtain ⟨c, x, hc, -⟩ := own_i2d h
  show Jvm.FP.Core.val64 (Jvm.FP.Core.dadd _ _) = _
  rw [Jvm.FP.Core.val64_dadd, hc, show Jvm.FP.Core.val64 (9218868437227405312 : UInt64) = .inf false from by decide +kernel]; rfl
theorem own_max : NN (9218868437227405311 : UInt64) ((2 ^ 53 - 1) * 2 ^ 2045) := by
  refine ⟨2 ^ 53 - 1, 971, by decide +kernel, ?_⟩
  rw [show ((971 : Int) + 1074).toNat = 2045 from rfl]
theorem own_D2 {q : Int32} {n : Nat} (h : q.toInt = n) : Jvm.FP.Core.val64 (FP.dadd (9218868437227405311 : UInt64) (FP.i2d q)) = .inf false ∨ ∃ y, NN (FP.dadd (9218868437227405311 : UInt64) (FP.i2d q)) y ∧ 2 ^ 2097 ≤ y := by
  have hq := own_i2d h
  have hz := Jvm.FP.Core.sum_ge Jvm.FP.Core.good_b64 own_max.vf hq.vf (Jvm.FP.Core.val64_fits _) (Jvm.FP.Core.val64_fits _) (Jvm.FP.Core.val64_fits (9218868437227405311 : UInt64)) own_max.ne (by rw [own_max.zval, hq.zval]; omega)
  have hv : Jvm.FP.Core.val64 (FP.dadd (9218868437227405311 : UInt64) (FP.i2d q)) = Jvm.FP.Core.round Jvm.FP.Core.b64 (Jvm.FP.Core.exactSum (Jvm.FP.Core.val64 (9218868437227405311 : UInt64)) (Jvm.FP.Core.val64 (FP.i2d q))) := Jvm.FP.Core.val64_dadd _ _
  rw [← hv, own_max.zval] at hz
  have hn : Jvm.FP.Core.val64 (FP.dadd (9218868437227405311 : UInt64) (FP.i2d q)) ≠ .nan := by
    have k := (Jvm.Free.Fl.noNaN64_iff _).mp (Jvm.Free.Fl.dadd_out own_max.noNaN (Jvm.Free.Fl.i2d_fin q))
    exact (Jvm.FP.Core.ne_nan _).mpr k
  have hpos : 0 < (2 ^ 53 - 1) * (2 : Nat) ^ 2045 := Nat.mul_pos (by omega) (Nat.two_pow_pos _)
  have hbig : (2 : Nat) ^ 2097 ≤ (2 ^ 53 - 1) * 2 ^ 2045 := by
    calc (2 : Nat) ^ 2097 = 2 ^ 52 * 2 ^ 2045 := by rw [← Nat.pow_add]
      _ ≤ (2 ^ 53 - 1) * 2 ^ 2045 := Nat.mul_le_mul_right _ (by omega)
  generalize (2 ^ 53 - 1) * (2 : Nat) ^ 2045 = MX at *
  cases hval : Jvm.FP.Core.val64 (FP.dadd (9218868437227405311 : UInt64) (FP.i2d q)) with
  | nan => exact absurd hval hn
  | inf t =>
    cases t with
    | false => exact Or.inl rfl
    | true =>
      exfalso
      rw [hval] at hz
      have : Jvm.FP.Core.zval Jvm.FP.Core.b64 (.inf true) ≤ 0 := by
        show -((_ : Nat) : Int) ≤ 0; omega
      omega
  | fin t c x =>
    cases t with
    | false =>
      refine Or.inr ⟨_, ⟨c, x, hval, rfl⟩, ?_⟩
      rw [hval] at hz
      have e : Jvm.FP.Core.zval Jvm.FP.Core.b64 (.fin false c x) = ((Jvm.FP.Core.inUnits c x Jvm.FP.Core.b64.qmin : Nat) : Int) := rfl
      rw [e, own_inU] at hz
      omega
    | true =>
      exfalso
      rw [hval] at hz
      have : Jvm.FP.Core.zval Jvm.FP.Core.b64 (.fin true c x) ≤ 0 := by
        show -((_ : Nat) : Int) ≤ 0; omega
      omega
/-- a is not above b -/
def LE (a b : UInt64) : Prop := Jvm.FP.Core.val64 a ≠ .nan ∧ Jvm.FP.Core.val64 b ≠ .nan ∧ Jvm.FP.Core.zval Jvm.FP.Core.b64 (Jvm.FP.Core.val64 a) ≤ Jvm.FP.Core.zval Jvm.FP.Core.b64 (Jvm.FP.Core.val64 b)
theorem LE.g {a b : UInt64} (h : LE a b) : ¬ (0 : Int32) < (cmpValue (FP.dcmp a b) .g) := by
  rcases Jvm.FP.Core.dcmp_le.mpr h with k | k
  · rw [show FP.dcmp a b = some .lt from k]; decide
  · rw [show FP.dcmp a b = some .eq from k]; decide
theorem LE.eq {a b : UInt64} (h : LE a b) (h' : LE b a) : cmpValue (FP.dcmp a b) .l = (0 : Int32) := by
  rw [show FP.dcmp a b = some .eq from Jvm.FP.Core.dcmp_eq.mpr ⟨h.1, h.2.1, Int.le_antisymm h.2.2 h'.2.2⟩]; rfl
theorem NN.le {a b : UInt64} {x y : Nat} (ha : NN a x) (hb : NN b y) (h : x ≤ y) : LE a b := ⟨ha.ne, hb.ne, by rw [ha.zval, hb.zval]; omega⟩
theorem NN.leN {a b : UInt64} {x y : Nat} (ha : NN a x) (hb : NN b y) (h : x ≤ y) : LE (Jvm.FP.Core.dneg b) (Jvm.FP.Core.dneg a) := by
  refine ⟨?_, ?_, ?_⟩
  · rw [Jvm.FP.Core.val64_dneg]; exact Jvm.FP.Core.negate_ne_nan hb.ne
  · rw [Jvm.FP.Core.val64_dneg]; exact Jvm.FP.Core.negate_ne_nan ha.ne
  · rw [Jvm.FP.Core.val64_dneg, Jvm.FP.Core.val64_dneg, Jvm.FP.Core.zval_negate, Jvm.FP.Core.zval_negate, ha.zval, hb.zval]; omega
theorem NN.ge0 {a : UInt64} {x : Nat} (ha : NN a x) : ¬ (cmpValue (FP.dcmp a FP.dconst0) .l) < (0 : Int32) := by
  rcases Nat.eq_zero_or_pos x with k | k
  · rw [ha.eq own_zero_nn k]; decide
  · rw [ha.gt own_zero_nn k]; decide
/-- two weights -/
theorem own_two_w {q : Int32} {n a b : Nat} {A B : Int64} (h : q.toInt = n) (h1 : 1 ≤ n) (h2 : n ≤ 2 ^ 26) (hA : A.toInt = a) (hB : B.toInt = b) (hab : a ≤ b) (hb : b ≤ 2 ^ 52) :
    ∃ sa sb wa wb, NN (FP.ddiv (FP.dmul (FP.i2d q) (FP.i2d (q - 1))) (FP.dadd (FP.l2d A) (FP.i2d q))) sa ∧ NN (FP.ddiv (FP.dmul (FP.i2d q) (FP.i2d (q - 1))) (FP.dadd (FP.l2d B) (FP.i2d q))) sb
      ∧ NN (FP.dsub (FP.i2d q) (FP.ddiv (FP.dmul (FP.i2d q) (FP.i2d (q - 1))) (FP.dadd (FP.l2d A) (FP.i2d q)))) wa ∧ NN (FP.dsub (FP.i2d q) (FP.ddiv (FP.dmul (FP.i2d q) (FP.i2d (q - 1))) (FP.dadd (FP.l2d B) (FP.i2d q)))) wb
      ∧ 1 * 2 ^ 1074 ≤ wa ∧ wa ≤ wb ∧ wb ≤ n * 2 ^ 1074 := by
  have hP := own_P h h1 h2
  have hDa := own_D h hA (by omega)
  have hDb := own_D h hB hb
  have hya : 0 < (a + n) * 2 ^ 1074 := Nat.mul_pos (by omega) (Nat.two_pow_pos _)
  have hyb : 0 < (b + n) * 2 ^ 1074 := Nat.mul_pos (by omega) (Nat.two_pow_pos _)
  have bound : ∀ k, n * (n - 1) * 2 ^ 1074 * 2 ^ 1074 ≤ (n - 1) * 2 ^ 1074 * ((k + n) * 2 ^ 1074) := by
    intro k
    calc n * (n - 1) * 2 ^ 1074 * 2 ^ 1074 = (n - 1) * 2 ^ 1074 * (n * 2 ^ 1074) := by (try generalize (2 : Nat) ^ 1074 = A1); (try generalize (2 : Nat) ^ 1073 = A2); (try generalize (2 : Nat) ^ 1042 = A3); (try generalize (2 : Nat) ^ 2045 = A4); (try generalize (2 : Nat) ^ (0 - (-2148) : Int).toNat = A5); ac_rfl
      _ ≤ (n - 1) * 2 ^ 1074 * ((k + n) * 2 ^ 1074) := Nat.mul_le_mul_left _ (Nat.mul_le_mul_right _ (by omega))
  obtain ⟨sa, wa, s1, s2, w1, w2, w3, -⟩ := own_w h h1 (by omega) hP hDa hya (bound a)
  obtain ⟨sb, wb, t1, t2, v1, v2, v3, -⟩ := own_w h h1 (by omega) hP hDb hyb (bound b)
  have hs : sb ≤ sa := own_div_mono hP hDb hP hDa hyb hya (Nat.mul_le_mul_left _ (Nat.mul_le_mul_right _ (by omega))) t1 s1
  have hq := own_i2d h
  have la : sa ≤ n * 2 ^ 1074 := Nat.le_trans s2 (Nat.mul_le_mul_right _ (by omega))
  have lb : sb ≤ n * 2 ^ 1074 := Nat.le_trans t2 (Nat.mul_le_mul_right _ (by omega))
  have hw : wa ≤ wb := own_sub_mono hq s1 hq t1 la lb (by omega) w1 v1
  exact ⟨sa, sb, wa, wb, s1, t1, w1, v1, w2, hw, v3⟩
/-- products with a whole double that is not below nought -/
theorem own_prods {q : Int32} {X Y J : UInt64} {n wa wb j : Nat} (h : q.toInt = n) (h1 : 1 ≤ n) (h2 : n ≤ 2 ^ 26) (hX : NN X wa) (hY : NN Y wb) (ha : 1 * 2 ^ 1074 ≤ wa) (hab : wa ≤ wb) (hbn : wb ≤ n * 2 ^ 1074) (hJ : NN J (j * 2 ^ 1074)) (hj : j ≤ 2 ^ 31) :
    ∃ ra rb tp, NN (FP.dmul X J) ra ∧ NN (FP.dmul Y J) rb ∧ NN (FP.dmul (FP.i2d q) J) tp ∧ j * 2 ^ 1074 ≤ ra ∧ ra ≤ rb ∧ rb ≤ tp ∧ (n = 1 → tp = j * 2 ^ 1074) := by
  obtain ⟨V, v⟩ := own_rep (c := 1) (k := 1131) (by omega) (by omega)
  have e1 : 1 * 2 ^ 1131 = 2 ^ 57 * (2 : Nat) ^ 1074 := by rw [Nat.one_mul, ← Nat.pow_add]
  rw [e1] at v
  have hq := own_i2d h
  have bd : ∀ w, w ≤ n * 2 ^ 1074 → w * (j * 2 ^ 1074) ≤ 2 ^ 57 * 2 ^ 1074 * 2 ^ 1074 := by
    intro w hw
    calc w * (j * 2 ^ 1074) ≤ 2 ^ 26 * 2 ^ 1074 * (2 ^ 31 * 2 ^ 1074) := Nat.mul_le_mul (Nat.le_trans hw (Nat.mul_le_mul_right _ h2)) (Nat.mul_le_mul_right _ hj)
      _ = 2 ^ 57 * 2 ^ 1074 * 2 ^ 1074 := by
        calc 2 ^ 26 * 2 ^ 1074 * (2 ^ 31 * 2 ^ 1074) = (2 ^ 26 * 2 ^ 31) * (2 : Nat) ^ 1074 * 2 ^ 1074 := by (try generalize (2 : Nat) ^ 1074 = A1); (try generalize (2 : Nat) ^ 1073 = A2); (try generalize (2 : Nat) ^ 1042 = A3); (try generalize (2 : Nat) ^ 2045 = A4); (try generalize (2 : Nat) ^ (0 - (-2148) : Int).toNat = A5); ac_rfl
          _ = 2 ^ 57 * 2 ^ 1074 * 2 ^ 1074 := by rw [← Nat.pow_add 2 26 31]
  obtain ⟨ra, hra, -, rge⟩ := own_dmul hX hJ v (bd wa (Nat.le_trans hab hbn))
  obtain ⟨rb, hrb, -, -⟩ := own_dmul hY hJ v (bd wb hbn)
  obtain ⟨tp, htp, tle, tge⟩ := own_dmul hq hJ v (bd _ (Nat.le_refl _))
  refine ⟨ra, rb, tp, hra, hrb, htp, rge _ _ hJ ?_, own_mul_mono hX hJ hY hJ (Nat.mul_le_mul_right _ hab) hra hrb, own_mul_mono hY hJ hq hJ (Nat.mul_le_mul_right _ hbn) hrb htp, fun q => ?_⟩
  · calc j * 2 ^ 1074 * 2 ^ 1074 = 1 * 2 ^ 1074 * (j * 2 ^ 1074) := by rw [Nat.one_mul]; exact Nat.mul_comm _ _
      _ ≤ wa * (j * 2 ^ 1074) := Nat.mul_le_mul_right _ ha
  · subst q
    have e : 1 * 2 ^ 1074 * (j * 2 ^ 1074) = j * 2 ^ 1074 * 2 ^ 1074 := by rw [Nat.one_mul]; exact Nat.mul_comm _ _
    exact Nat.le_antisymm (tle _ _ hJ (Nat.le_of_eq e)) (tge _ _ hJ (Nat.le_of_eq e.symm))
theorem own_mulneg (w b : UInt64) : FP.dmul w (Jvm.FP.Core.dneg b) = Jvm.FP.Core.dneg (FP.dmul w b) := by
  show Jvm.FP.Core.dmul w (Jvm.FP.Core.dneg b) = Jvm.FP.Core.dneg (Jvm.FP.Core.dmul w b)
  rw [Jvm.FP.Core.dmul_comm, Jvm.FP.Core.dmul_dneg, Jvm.FP.Core.dmul_comm]
theorem own_mode4 {q I : Int32} {n a b : Nat} {A B : Int64} (h : q.toInt = n) (h1 : 1 ≤ n) (h2 : n ≤ 2 ^ 26) (hA : A.toInt = a) (hB : B.toInt = b) (hab : a ≤ b) (hb : b ≤ 2 ^ 52) :
    own_ok q (FP.l2d A) (FP.i2d I) ∧ own_ok q (FP.l2d B) (FP.i2d I) ∧
    (¬ I.toInt < 0 → LE (FP.i2d I) (own_qw q (FP.l2d A) (FP.i2d I)) ∧ LE (own_qw q (FP.l2d A) (FP.i2d I)) (FP.dmul (FP.i2d q) (FP.i2d I)) ∧ LE (FP.i2d I) (own_qw q (FP.l2d B) (FP.i2d I)) ∧ LE (own_qw q (FP.l2d B) (FP.i2d I)) (FP.dmul (FP.i2d q) (FP.i2d I)) ∧ LE (own_qw q (FP.l2d A) (FP.i2d I)) (own_qw q (FP.l2d B) (FP.i2d I)) ∧ (n = 1 → LE (FP.dmul (FP.i2d q) (FP.i2d I)) (FP.i2d I)) ∧ ¬ (cmpValue (FP.dcmp (FP.i2d I) FP.dconst0) .l) < (0 : Int32)) ∧
    (I.toInt < 0 → LE (FP.dmul (FP.i2d q) (FP.i2d I)) (own_qw q (FP.l2d A) (FP.i2d I)) ∧ LE (own_qw q (FP.l2d A) (FP.i2d I)) (FP.i2d I) ∧ LE (FP.dmul (FP.i2d q) (FP.i2d I)) (own_qw q (FP.l2d B) (FP.i2d I)) ∧ LE (own_qw q (FP.l2d B) (FP.i2d I)) (FP.i2d I) ∧ LE (own_qw q (FP.l2d B) (FP.i2d I)) (own_qw q (FP.l2d A) (FP.i2d I)) ∧ (n = 1 → LE (FP.i2d I) (FP.dmul (FP.i2d q) (FP.i2d I))) ∧ (cmpValue (FP.dcmp (FP.i2d I) FP.dconst0) .l) < (0 : Int32)) := by
  obtain ⟨sa, sb, wa, wb, s1, t1, w1, v1, w2, hw, v3⟩ := own_two_w h h1 h2 hA hB hab hb
  have hP := own_P h h1 h2
  have hDa := own_D h hA (by omega)
  have hDb := own_D h hB hb
  have rI := rng32 I
  refine ⟨own_okF hP hDa s1 w1 (Jvm.Free.Fl.i2d_fin I), own_okF hP hDb t1 v1 (Jvm.Free.Fl.i2d_fin I), fun hI => ?_, fun hI => ?_⟩
  · obtain ⟨j, hj⟩ := Int.eq_ofNat_of_zero_le (show 0 ≤ I.toInt by omega)
    have hJ := own_i2d hj
    obtain ⟨ra, rb, tp, x1, x2, x3, x4, x5, x6, x7⟩ := own_prods h h1 h2 w1 v1 w2 hw v3 hJ (by omega)
    exact ⟨hJ.le x1 x4, x1.le x3 (by omega), hJ.le x2 (by omega), x2.le x3 x6, x1.le x2 x5, fun k => x3.le hJ (Nat.le_of_eq (x7 k)), hJ.ge0⟩
  · have hJ64 : (-I.toInt64).toInt = -I.toInt := by
      rw [Jvm.FP.Core.int64_neg (by rw [c_i2l]; omega), c_i2l]
    obtain ⟨j, hj⟩ := Int.eq_ofNat_of_zero_le (show 0 ≤ (-I.toInt64).toInt by rw [hJ64]; omega)
    have hJ := own_l2d hj (by omega)
    have hne : -I.toInt64 ≠ 0 := by
      intro k; rw [k, show (0 : Int64).toInt = 0 from by decide] at hJ64; omega
    have eI : FP.i2d I = Jvm.FP.Core.dneg (FP.l2d (-I.toInt64)) := by
      have k := Jvm.FP.Core.l2d_neg (a := -I.toInt64) hne (by omega)
      rw [Int64.neg_neg] at k
      rw [i2d_w]; exact k
    obtain ⟨ra, rb, tp, x1, x2, x3, x4, x5, x6, x7⟩ := own_prods h h1 h2 w1 v1 w2 hw v3 hJ (by omega)
    unfold own_qw
    rw [eI, own_mulneg, own_mulneg, own_mulneg]
    refine ⟨x1.leN x3 (by omega), hJ.leN x1 x4, x2.leN x3 x6, hJ.leN x2 (by omega), x1.leN x2 x5, fun k => x3.leN hJ (Nat.le_of_eq (x7 k)), ?_⟩
    have hz : 0 < j := by omega
    have hzz : 0 < j * 2 ^ 1074 := Nat.mul_pos hz (Nat.two_pow_pos _)
    have k : FP.dcmp (Jvm.FP.Core.dneg (FP.l2d (-I.toInt64))) FP.dconst0 = some .lt := by
      refine Jvm.FP.Core.dcmp_lt.mpr ⟨?_, own_zero_nn.ne, ?_⟩
      · rw [Jvm.FP.Core.val64_dneg]; exact Jvm.FP.Core.negate_ne_nan hJ.ne
      · rw [Jvm.FP.Core.val64_dneg, Jvm.FP.Core.zval_negate, hJ.zval, own_zero_nn.zval]; omega
    rw [k]; decide

theorem own_eq_v {args : Array Value} {first s : State} {o : Option Outcome} {idx : List Nat} {a b : Term} {x : Value} (hb : b.eval args first o idx s = some x) (hk : ∃ z, x = .int z) (h : (Jvm.Cond.eq a b).value args first o s idx = some true) : a.eval args first o idx s = some x := by
  cases ha : a.eval args first o idx s with
  | none => simp [Cond.value, ha] at h
  | some y => rcases hk with ⟨z, rfl⟩; cases y <;> simp [Cond.value, ha, hb] at h ⊢ <;> exact h
theorem own_fld {args : Array Value} {s : State} {t b : Term} {a : Addr} {x : Value} {C n d : String} (ht : t.eval args s none [] s = some (.ref a)) (hb : b.eval args s none [] s = some x) (hk : ∃ z, x = .int z) (h : (Jvm.Cond.eq (Term.field t C n d) b).value args s none s [] = some true) : Fld s s.heap a C n d x :=
  Fld.start ((fld_at ht).symm.trans (own_eq_v hb hk h))
theorem own_ne {Z : State} {h : Heap} {a b : Addr} {C n d : String} {x y : Int32} (F : Fld Z h a C n d (.int x)) (G : Fld Z h b C n d (.int y)) (q : x ≠ y) : a ≠ b := Fld.ne F G fun r => q (Value.int.inj r)
theorem d1_0 : decode jdk_29_method_65_code 0 = .ok (.iload_n 0, 1) := by decide +kernel
theorem d1_1 : decode jdk_29_method_65_code 1 = .ok (.iload_n 1, 1) := by decide +kernel
theorem d1_2 : decode jdk_29_method_65_code 2 = .ok (.if_icmp .lt 7, 3) := by decide +kernel
theorem d1_5 : decode jdk_29_method_65_code 5 = .ok (.iload_n 0, 1) := by decide +kernel
theorem d1_6 : decode jdk_29_method_65_code 6 = .ok (.goto 4, 3) := by decide +kernel
theorem d1_9 : decode jdk_29_method_65_code 9 = .ok (.iload_n 1, 1) := by decide +kernel
theorem d1_10 : decode jdk_29_method_65_code 10 = .ok (.ireturn, 1) := by decide +kernel
theorem ef1 (m : MethodId) (x0 : Int32) (x1 : Int32) : entryFrame m #[(.int x0), (.int x1)] 2 = mkF m 0 #[.val (.int x0), .val (.int x1)] [] := by first | (simp [entryFrame, mkF, argsToLocals, Value.category]; done) | rfl
def Q1 (Z : State) (x : Int32) (y : Int32) (h0 : Heap) (n0 : Nat) (v : Option Value) (h : Heap) (L : List Loc) : Prop := v = some (.int (if x < y then y else x)) ∧ Fr n0 L ∧ h = h0
set_option maxRecDepth 65536 in
set_option maxHeartbeats 40000000 in
theorem rm1 (l : Launch) (Z : State) (a0 : Array Value) (hw : ∀ d ∈ tables_1, d.before a0 Z = true) (ws : List Jvm.Cond) (x : Int32) (y : Int32) (h0 : Heap) (n0 : Nat) (Z0 : n0 ≤ h0.size) :
    MetFree l (⟨"java/lang/Math", "max", "(II)I"⟩ : MethodName) (head1 (Jvm.Cond.code (⟨"java/lang/Math", "max", "(II)I"⟩ : MethodName) jdk_29_method_65_code 2 (some .int) :: ws) ({ frames := 0, cells := 0, slots := 0, locals := 0 } : Room)) (fun aa U => aa = #[(.int x), (.int y)] ∧ Z.Warmed39 U.vm ∧ U.heap = h0) (fun _ _ _ _ _ => True) (fun _ UU oo UU' => ∃ vv LL, oo = .returned vv ∧ Q1 Z x y h0 n0 vv UU'.heap LL ∧ FrameEnd UU oo UU' LL ({ frames := 0, cells := 0, slots := 0, locals := 0 } : Room).cells ({ frames := 0, cells := 0, slots := 0, locals := 0 } : Room).slots) := by
  refine MetFree.of_bodySF (Jvm.Free.JP.mathPlain rfl (by decide +kernel)) hisR ?_
  intro p e s m args below meth c s₁ Bd hml0 hP hK
  obtain ⟨rfl, hZ, hh⟩ := hP
  have hx := Bd.exec
  have hby := Bd.bytes
  have hml : c.maxLocals = 2 := hml0
  have hown : s.vm.findClass "java/lang/Math" = some m.cls := findClass_of_methodNamed Bd.named
  have hnm := (name_of_methodNamed Bd.named Bd.method).1
  have X0 : Stand p l e ({ frames := 0, cells := 0, slots := 0, locals := 0 } : Room) s m #[(.int x), (.int y)] below meth c s₁ [] 0 0 := Stand.of_body Bd
  have e0 : s₁.heap = h0 := by rw [← hh, Bd.state]; rfl
  have N0 := Fr.nil n0
  show Ends p e below (fun tt oo => ∃ vv LL, oo = .returned vv ∧ Q1 Z x y h0 n0 vv tt.heap LL ∧ FrameEnd s oo tt LL ({ frames := 0, cells := 0, slots := 0, locals := 0 } : Room).cells ({ frames := 0, cells := 0, slots := 0, locals := 0 } : Room).slots) (s₁.setTop (entryFrame m #[(.int x), (.int y)] 2))
  refine Ends.pre (fun t k => castTop (ef1 m x y) k) ?_
  show Ends p e below _ (s₁.setTop (mkF m 0 #[.val (.int x), .val (.int y)] []))
  refine Ends.pre (fun tt kt => XS.iloadN X0.here hx rfl (hb hby d1_0) rfl kt) ?_
  show Ends p e below _ (s₁.setTop (mkF m 1 #[.val (.int x), .val (.int y)] [(.int x)]))
  refine Ends.pre (fun tt kt => XS.iloadN X0.here hx rfl (hb hby d1_1) rfl kt) ?_
  show Ends p e below _ (s₁.setTop (mkF m 2 #[.val (.int x), .val (.int y)] [(.int y), (.int x)]))
  by_cases h1 : x < y
  ·
    refine Ends.pre (fun tt kt => XS.icmpYes X0.here hx rfl (pc0 := 2) (pc' := 9) rfl (hb hby d1_2) rfl (tlt h1).1 (by decide) (by decide) kt) ?_
    show Ends p e below _ (s₁.setTop (mkF m 9 #[.val (.int x), .val (.int y)] []))
    refine Ends.pre (fun tt kt => XS.iloadN X0.here hx rfl (hb hby d1_9) rfl kt) ?_
    show Ends p e below _ (s₁.setTop (mkF m 10 #[.val (.int x), .val (.int y)] [(.int y)]))
    obtain ⟨fs, hr, hrun, hended, hW, hsame⟩ := X0.leave (v := some (.int y)) (fun h => by rw [Bd.returns] at h; cases h)
    refine ⟨_, _, retOut X0 hx Bd.returns rfl (Or.inl ⟨rfl, Or.inl rfl, _, rfl⟩) (hb hby d1_10) hr, hrun, hended, _, _, rfl, ?_, ⟨_, rfl⟩, hW, hsame.mono (by decide) (by decide)⟩
    show Q1 Z _ _ h0 n0 _ s₁.heap _
    rw [e0]
    exact ⟨by rw [if_pos h1], N0, rfl⟩
  ·
    refine Ends.pre (fun tt kt => XS.icmpNo X0.here hx rfl (hb hby d1_2) rfl (flt h1).1 kt) ?_
    show Ends p e below _ (s₁.setTop (mkF m 5 #[.val (.int x), .val (.int y)] []))
    refine Ends.pre (fun tt kt => XS.iloadN X0.here hx rfl (hb hby d1_5) rfl kt) ?_
    show Ends p e below _ (s₁.setTop (mkF m 6 #[.val (.int x), .val (.int y)] [(.int x)]))
    refine Ends.pre (fun tt kt => XS.goto X0.here hx rfl (pc0 := 6) (pc' := 10) rfl (hb hby d1_6) (by decide) (by decide) kt) ?_
    show Ends p e below _ (s₁.setTop (mkF m 10 #[.val (.int x), .val (.int y)] [(.int x)]))
    obtain ⟨fs, hr, hrun, hended, hW, hsame⟩ := X0.leave (v := some (.int x)) (fun h => by rw [Bd.returns] at h; cases h)
    refine ⟨_, _, retOut X0 hx Bd.returns rfl (Or.inl ⟨rfl, Or.inl rfl, _, rfl⟩) (hb hby d1_10) hr, hrun, hended, _, _, rfl, ?_, ⟨_, rfl⟩, hW, hsame.mono (by decide) (by decide)⟩
    show Q1 Z _ _ h0 n0 _ s₁.heap _
    rw [e0]
    exact ⟨by rw [if_neg h1], N0, rfl⟩
theorem d6_0 : decode prog_41_method_5_code 0 = .ok (.aload_n 0, 1) := by decide +kernel
theorem d6_1 : decode prog_41_method_5_code 1 = .ok (.getstatic 7, 3) := by decide +kernel
theorem d6_4 : decode prog_41_method_5_code 4 = .ok (.if_acmp .eq 10, 3) := by decide +kernel
theorem d6_7 : decode prog_41_method_5_code 7 = .ok (.aload_n 0, 1) := by decide +kernel
theorem d6_8 : decode prog_41_method_5_code 8 = .ok (.getstatic 10, 3) := by decide +kernel
theorem d6_11 : decode prog_41_method_5_code 11 = .ok (.if_acmp .ne 7, 3) := by decide +kernel
theorem d6_18 : decode prog_41_method_5_code 18 = .ok (.iconst 0, 1) := by decide +kernel
theorem d6_19 : decode prog_41_method_5_code 19 = .ok (.ireturn, 1) := by decide +kernel
theorem pn6 : plainName "com/example/bare_ranker/bareranker/search/Model" = true := by first | (simp [plainName, overriddenIn]; done) | decide +kernel
theorem ef6 (m : MethodId) (x0 : Addr) : entryFrame m #[(.ref x0)] 1 = mkF m 0 #[.val (.ref x0)] [] := by first | (simp [entryFrame, mkF, argsToLocals, Value.category]; done) | rfl
def Q6 (Z : State) (a : Addr) (aL : Addr) (aP : Addr) (h0 : Heap) (n0 : Nat) (v : Option Value) (h : Heap) (L : List Loc) : Prop := v = some (.int 0) ∧ Fr n0 L ∧ h = h0
set_option maxRecDepth 65536 in
set_option maxHeartbeats 40000000 in
theorem rm6 (l : Launch) (Z : State) (a0 : Array Value) (hw : ∀ d ∈ tables_1, d.before a0 Z = true) (ws : List Jvm.Cond) (a : Addr) (aL : Addr) (aP : Addr) (h0 : Heap) (n0 : Nat) (Z0 : n0 ≤ h0.size) (SL : Sta Z h0 "com/example/bare_ranker/bareranker/search/Model" "BM25L" "Lcom/example/bare_ranker/bareranker/search/Model;" (.ref aL)) (SP : Sta Z h0 "com/example/bare_ranker/bareranker/search/Model" "BM25_PLUS" "Lcom/example/bare_ranker/bareranker/search/Model;" (.ref aP)) (h1 : a ≠ aL) (h2 : a ≠ aP) :
    MetFree l (⟨"com/example/bare_ranker/bareranker/search/Model", "takesDelta", "()Z"⟩ : MethodName) (head1 (Jvm.Cond.code (⟨"com/example/bare_ranker/bareranker/search/Model", "takesDelta", "()Z"⟩ : MethodName) prog_41_method_5_code 1 (some .boolean) :: ws) ({ frames := 0, cells := 0, slots := 0, locals := 0 } : Room)) (fun aa U => aa = #[(.ref a)] ∧ Z.Warmed39 U.vm ∧ U.heap = h0) (fun _ _ _ _ _ => True) (fun _ UU oo UU' => ∃ vv LL, oo = .returned vv ∧ Q6 Z a aL aP h0 n0 vv UU'.heap LL ∧ FrameEnd UU oo UU' LL ({ frames := 0, cells := 0, slots := 0, locals := 0 } : Room).cells ({ frames := 0, cells := 0, slots := 0, locals := 0 } : Room).slots) := by
  refine MetFree.of_bodySF (plainFor_of_name pn6) hisR ?_
  intro p e s m args below meth c s₁ Bd hml0 hP hK
  obtain ⟨rfl, hZ, hh⟩ := hP
  have hx := Bd.exec
  have hby := Bd.bytes
  have hml : c.maxLocals = 1 := hml0
  have hown : s.vm.findClass "com/example/bare_ranker/bareranker/search/Model" = some m.cls := findClass_of_methodNamed Bd.named
  have hnm := (name_of_methodNamed Bd.named Bd.method).1
  have X0 : Stand p l e ({ frames := 0, cells := 0, slots := 0, locals := 0 } : Room) s m #[(.ref a)] below meth c s₁ [] 0 0 := Stand.of_body Bd
  have e0 : s₁.heap = h0 := by rw [← hh, Bd.state]; rfl
  have N0 := Fr.nil n0
  show Ends p e below (fun tt oo => ∃ vv LL, oo = .returned vv ∧ Q6 Z a aL aP h0 n0 vv tt.heap LL ∧ FrameEnd s oo tt LL ({ frames := 0, cells := 0, slots := 0, locals := 0 } : Room).cells ({ frames := 0, cells := 0, slots := 0, locals := 0 } : Room).slots) (s₁.setTop (entryFrame m #[(.ref a)] 1))
  refine Ends.pre (fun t k => castTop (ef6 m a) k) ?_
  show Ends p e below _ (s₁.setTop (mkF m 0 #[.val (.ref a)] []))
  refine Ends.pre (fun tt kt => XS.aloadN X0.here hx rfl (hb hby d6_0) rfl rfl kt) ?_
  show Ends p e below _ (s₁.setTop (mkF m 1 #[.val (.ref a)] [(.ref a)]))
  obtain ⟨T1, X1, e1, st1⟩ := getS2 X0 hx hZ hown (host := "") (Or.inl (hw _ (List.mem_of_getElem? (i := 39) rfl))) Via.refl e0 SL (g := (mkF m 1 #[.val (.ref a)] [(.ref a)])) rfl (hb hby d6_1)
  refine Ends.pre (fun tt kt => st1 _ kt) ?_
  show Ends p e below _ (T1.setTop (mkF m 4 #[.val (.ref a)] [(.ref aL), (.ref a)]))
  refine Ends.pre (fun tt kt => Jvm.RoadKit.acmp (g := (mkF m 4 #[.val (.ref a)] [(.ref aL), (.ref a)])) X1 hx rfl rfl rfl (pc0 := 4) (pc' := 7) (same := false) rfl (hb hby d6_4) rfl (decide_eq_false fun q => h1 (Value.ref.inj q)) (by decide) (by decide) kt) ?_
  show Ends p e below _ (T1.setTop (mkF m 7 #[.val (.ref a)] []))
  refine Ends.pre (fun tt kt => XS.aloadN X1.here hx rfl (hb hby d6_7) rfl rfl kt) ?_
  show Ends p e below _ (T1.setTop (mkF m 8 #[.val (.ref a)] [(.ref a)]))
  obtain ⟨T2, X2, e2, st2⟩ := getS2 X1 hx hZ hown (host := "") (Or.inl (hw _ (List.mem_of_getElem? (i := 41) rfl))) Via.refl e1 SP (g := (mkF m 8 #[.val (.ref a)] [(.ref a)])) rfl (hb hby d6_8)
  refine Ends.pre (fun tt kt => st2 _ kt) ?_
  show Ends p e below _ (T2.setTop (mkF m 11 #[.val (.ref a)] [(.ref aP), (.ref a)]))
  refine Ends.pre (fun tt kt => Jvm.RoadKit.acmp (g := (mkF m 11 #[.val (.ref a)] [(.ref aP), (.ref a)])) X2 hx rfl rfl rfl (pc0 := 11) (pc' := 18) (same := false) rfl (hb hby d6_11) rfl (decide_eq_false fun q => h2 (Value.ref.inj q)) (by decide) (by decide) kt) ?_
  show Ends p e below _ (T2.setTop (mkF m 18 #[.val (.ref a)] []))
  refine Ends.pre (fun tt kt => XS.iconst X2.here hx rfl (hb hby d6_18) kt) ?_
  show Ends p e below _ (T2.setTop (mkF m 19 #[.val (.ref a)] [(.int (0 : Int32))]))
  obtain ⟨fs, hr, hrun, hended, hW, hsame⟩ := X2.leave (v := some (.int (0 : Int32))) (fun h => by rw [Bd.returns] at h; cases h)
  refine ⟨_, _, retN X2 hx (t := .boolean) Bd.returns (by simp) (hb hby d6_19) hr, hrun, hended, _, _, rfl, ?_, ⟨_, rfl⟩, hW, hsame.mono (by decide) (by decide)⟩
  show Q6 Z _ _ _ h0 n0 _ T2.heap _
  rw [e2]
  exact ⟨rfl, N0, rfl⟩
theorem d7_0 : decode prog_41_method_6_code 0 = .ok (.aload_n 0, 1) := by decide +kernel
theorem d7_1 : decode prog_41_method_6_code 1 = .ok (.getstatic 13, 3) := by decide +kernel
theorem d7_4 : decode prog_41_method_6_code 4 = .ok (.if_acmp .ne 7, 3) := by decide +kernel
theorem d7_11 : decode prog_41_method_6_code 11 = .ok (.iconst 0, 1) := by decide +kernel
theorem d7_12 : decode prog_41_method_6_code 12 = .ok (.ireturn, 1) := by decide +kernel
theorem pn7 : plainName "com/example/bare_ranker/bareranker/search/Model" = true := by first | (simp [plainName, overriddenIn]; done) | decide +kernel
theorem ef7 (m : MethodId) (x0 : Addr) : entryFrame m #[(.ref x0)] 1 = mkF m 0 #[.val (.ref x0)] [] := by first | (simp [entryFrame, mkF, argsToLocals, Value.category]; done) | rfl
def Q7 (Z : State) (a : Addr) (aA : Addr) (h0 : Heap) (n0 : Nat) (v : Option Value) (h : Heap) (L : List Loc) : Prop := v = some (.int 0) ∧ Fr n0 L ∧ h = h0
set_option maxRecDepth 65536 in
set_option maxHeartbeats 40000000 in
theorem rm7 (l : Launch) (Z : State) (a0 : Array Value) (hw : ∀ d ∈ tables_1, d.before a0 Z = true) (ws : List Jvm.Cond) (a : Addr) (aA : Addr) (h0 : Heap) (n0 : Nat) (Z0 : n0 ≤ h0.size) (SA : Sta Z h0 "com/example/bare_ranker/bareranker/search/Model" "BM25_ADPT" "Lcom/example/bare_ranker/bareranker/search/Model;" (.ref aA)) (h1 : a ≠ aA) :
    MetFree l (⟨"com/example/bare_ranker/bareranker/search/Model", "fitsK1", "()Z"⟩ : MethodName) (head1 (Jvm.Cond.code (⟨"com/example/bare_ranker/bareranker/search/Model", "fitsK1", "()Z"⟩ : MethodName) prog_41_method_6_code 1 (some .boolean) :: ws) ({ frames := 0, cells := 0, slots := 0, locals := 0 } : Room)) (fun aa U => aa = #[(.ref a)] ∧ Z.Warmed39 U.vm ∧ U.heap = h0) (fun _ _ _ _ _ => True) (fun _ UU oo UU' => ∃ vv LL, oo = .returned vv ∧ Q7 Z a aA h0 n0 vv UU'.heap LL ∧ FrameEnd UU oo UU' LL ({ frames := 0, cells := 0, slots := 0, locals := 0 } : Room).cells ({ frames := 0, cells := 0, slots := 0, locals := 0 } : Room).slots) := by
  refine MetFree.of_bodySF (plainFor_of_name pn7) hisR ?_
  intro p e s m args below meth c s₁ Bd hml0 hP hK
  obtain ⟨rfl, hZ, hh⟩ := hP
  have hx := Bd.exec
  have hby := Bd.bytes
  have hml : c.maxLocals = 1 := hml0
  have hown : s.vm.findClass "com/example/bare_ranker/bareranker/search/Model" = some m.cls := findClass_of_methodNamed Bd.named
  have hnm := (name_of_methodNamed Bd.named Bd.method).1
  have X0 : Stand p l e ({ frames := 0, cells := 0, slots := 0, locals := 0 } : Room) s m #[(.ref a)] below meth c s₁ [] 0 0 := Stand.of_body Bd
  have e0 : s₁.heap = h0 := by rw [← hh, Bd.state]; rfl
  have N0 := Fr.nil n0
  show Ends p e below (fun tt oo => ∃ vv LL, oo = .returned vv ∧ Q7 Z a aA h0 n0 vv tt.heap LL ∧ FrameEnd s oo tt LL ({ frames := 0, cells := 0, slots := 0, locals := 0 } : Room).cells ({ frames := 0, cells := 0, slots := 0, locals := 0 } : Room).slots) (s₁.setTop (entryFrame m #[(.ref a)] 1))
  refine Ends.pre (fun t k => castTop (ef7 m a) k) ?_
  show Ends p e below _ (s₁.setTop (mkF m 0 #[.val (.ref a)] []))
  refine Ends.pre (fun tt kt => XS.aloadN X0.here hx rfl (hb hby d7_0) rfl rfl kt) ?_
  show Ends p e below _ (s₁.setTop (mkF m 1 #[.val (.ref a)] [(.ref a)]))
  obtain ⟨T3, X3, e3, st3⟩ := getS2 X0 hx hZ hown (host := "") (Or.inl (hw _ (List.mem_of_getElem? (i := 48) rfl))) Via.refl e0 SA (g := (mkF m 1 #[.val (.ref a)] [(.ref a)])) rfl (hb hby d7_1)
  refine Ends.pre (fun tt kt => st3 _ kt) ?_
  show Ends p e below _ (T3.setTop (mkF m 4 #[.val (.ref a)] [(.ref aA), (.ref a)]))
  refine Ends.pre (fun tt kt => Jvm.RoadKit.acmp (g := (mkF m 4 #[.val (.ref a)] [(.ref aA), (.ref a)])) X3 hx rfl rfl rfl (pc0 := 4) (pc' := 11) (same := false) rfl (hb hby d7_4) rfl (decide_eq_false fun q => h1 (Value.ref.inj q)) (by decide) (by decide) kt) ?_
  show Ends p e below _ (T3.setTop (mkF m 11 #[.val (.ref a)] []))
  refine Ends.pre (fun tt kt => XS.iconst X3.here hx rfl (hb hby d7_11) kt) ?_
  show Ends p e below _ (T3.setTop (mkF m 12 #[.val (.ref a)] [(.int (0 : Int32))]))
  obtain ⟨fs, hr, hrun, hended, hW, hsame⟩ := X3.leave (v := some (.int (0 : Int32))) (fun h => by rw [Bd.returns] at h; cases h)
  refine ⟨_, _, retN X3 hx (t := .boolean) Bd.returns (by simp) (hb hby d7_12) hr, hrun, hended, _, _, rfl, ?_, ⟨_, rfl⟩, hW, hsame.mono (by decide) (by decide)⟩
  show Q7 Z _ _ h0 n0 _ T3.heap _
  rw [e3]
  exact ⟨rfl, N0, rfl⟩
theorem d8_0 : decode prog_40_method_5_code 0 = .ok (.aload_n 0, 1) := by decide +kernel
theorem d8_1 : decode prog_40_method_5_code 1 = .ok (.getstatic 3, 3) := by decide +kernel
theorem d8_4 : decode prog_40_method_5_code 4 = .ok (.if_acmp .ne 7, 3) := by decide +kernel
theorem d8_7 : decode prog_40_method_5_code 7 = .ok (.iconst 1, 1) := by decide +kernel
theorem d8_8 : decode prog_40_method_5_code 8 = .ok (.goto 4, 3) := by decide +kernel
theorem d8_12 : decode prog_40_method_5_code 12 = .ok (.ireturn, 1) := by decide +kernel
theorem pn8 : plainName "com/example/bare_ranker/bareranker/search/LengthNorm" = true := by first | (simp [plainName, overriddenIn]; done) | decide +kernel
theorem ef8 (m : MethodId) (x0 : Addr) : entryFrame m #[(.ref x0)] 1 = mkF m 0 #[.val (.ref x0)] [] := by first | (simp [entryFrame, mkF, argsToLocals, Value.category]; done) | rfl
def Q8 (Z : State) (an : Addr) (h0 : Heap) (n0 : Nat) (v : Option Value) (h : Heap) (L : List Loc) : Prop := v = some (.int 1) ∧ Fr n0 L ∧ h = h0
set_option maxRecDepth 65536 in
set_option maxHeartbeats 40000000 in
theorem rm8 (l : Launch) (Z : State) (a0 : Array Value) (hw : ∀ d ∈ tables_1, d.before a0 Z = true) (ws : List Jvm.Cond) (an : Addr) (h0 : Heap) (n0 : Nat) (Z0 : n0 ≤ h0.size) (SV : Sta Z h0 "com/example/bare_ranker/bareranker/search/LengthNorm" "PIVOTED" "Lcom/example/bare_ranker/bareranker/search/LengthNorm;" (.ref an)) :
    MetFree l (⟨"com/example/bare_ranker/bareranker/search/LengthNorm", "takesB", "()Z"⟩ : MethodName) (head1 (Jvm.Cond.code (⟨"com/example/bare_ranker/bareranker/search/LengthNorm", "takesB", "()Z"⟩ : MethodName) prog_40_method_5_code 1 (some .boolean) :: ws) ({ frames := 0, cells := 0, slots := 0, locals := 0 } : Room)) (fun aa U => aa = #[(.ref an)] ∧ Z.Warmed39 U.vm ∧ U.heap = h0) (fun _ _ _ _ _ => True) (fun _ UU oo UU' => ∃ vv LL, oo = .returned vv ∧ Q8 Z an h0 n0 vv UU'.heap LL ∧ FrameEnd UU oo UU' LL ({ frames := 0, cells := 0, slots := 0, locals := 0 } : Room).cells ({ frames := 0, cells := 0, slots := 0, locals := 0 } : Room).slots) := by
  refine MetFree.of_bodySF (plainFor_of_name pn8) hisR ?_
  intro p e s m args below meth c s₁ Bd hml0 hP hK
  obtain ⟨rfl, hZ, hh⟩ := hP
  have hx := Bd.exec
  have hby := Bd.bytes
  have hml : c.maxLocals = 1 := hml0
  have hown : s.vm.findClass "com/example/bare_ranker/bareranker/search/LengthNorm" = some m.cls := findClass_of_methodNamed Bd.named
  have hnm := (name_of_methodNamed Bd.named Bd.method).1
  have X0 : Stand p l e ({ frames := 0, cells := 0, slots := 0, locals := 0 } : Room) s m #[(.ref an)] below meth c s₁ [] 0 0 := Stand.of_body Bd
  have e0 : s₁.heap = h0 := by rw [← hh, Bd.state]; rfl
  have N0 := Fr.nil n0
  show Ends p e below (fun tt oo => ∃ vv LL, oo = .returned vv ∧ Q8 Z an h0 n0 vv tt.heap LL ∧ FrameEnd s oo tt LL ({ frames := 0, cells := 0, slots := 0, locals := 0 } : Room).cells ({ frames := 0, cells := 0, slots := 0, locals := 0 } : Room).slots) (s₁.setTop (entryFrame m #[(.ref an)] 1))
  refine Ends.pre (fun t k => castTop (ef8 m an) k) ?_
  show Ends p e below _ (s₁.setTop (mkF m 0 #[.val (.ref an)] []))
  refine Ends.pre (fun tt kt => XS.aloadN X0.here hx rfl (hb hby d8_0) rfl rfl kt) ?_
  show Ends p e below _ (s₁.setTop (mkF m 1 #[.val (.ref an)] [(.ref an)]))
  obtain ⟨T4, X4, e4, st4⟩ := getS2 X0 hx hZ hown (host := "") (Or.inl (hw _ (List.mem_of_getElem? (i := 55) rfl))) Via.refl e0 SV (g := (mkF m 1 #[.val (.ref an)] [(.ref an)])) rfl (hb hby d8_1)
  refine Ends.pre (fun tt kt => st4 _ kt) ?_
  show Ends p e below _ (T4.setTop (mkF m 4 #[.val (.ref an)] [(.ref an), (.ref an)]))
  refine Ends.pre (fun tt kt => Jvm.RoadKit.acmp (g := (mkF m 4 #[.val (.ref an)] [(.ref an), (.ref an)])) X4 hx rfl rfl rfl (pc0 := 4) (pc' := 7) (same := true) rfl (hb hby d8_4) rfl (decide_eq_true rfl) (by decide) (by decide) kt) ?_
  show Ends p e below _ (T4.setTop (mkF m 7 #[.val (.ref an)] []))
  refine Ends.pre (fun tt kt => XS.iconst X4.here hx rfl (hb hby d8_7) kt) ?_
  show Ends p e below _ (T4.setTop (mkF m 8 #[.val (.ref an)] [(.int (1 : Int32))]))
  refine Ends.pre (fun tt kt => XS.goto X4.here hx rfl (pc0 := 8) (pc' := 12) rfl (hb hby d8_8) (by decide) (by decide) kt) ?_
  show Ends p e below _ (T4.setTop (mkF m 12 #[.val (.ref an)] [(.int (1 : Int32))]))
  obtain ⟨fs, hr, hrun, hended, hW, hsame⟩ := X4.leave (v := some (.int (1 : Int32))) (fun h => by rw [Bd.returns] at h; cases h)
  refine ⟨_, _, retN X4 hx (t := .boolean) Bd.returns (by simp) (hb hby d8_12) hr, hrun, hended, _, _, rfl, ?_, ⟨_, rfl⟩, hW, hsame.mono (by decide) (by decide)⟩
  show Q8 Z _ h0 n0 _ T4.heap _
  rw [e4]
  exact ⟨rfl, N0, rfl⟩
theorem d9_0 : decode prog_41_method_8_code 0 = .ok (.aload_n 0, 1) := by decide +kernel
theorem d9_1 : decode prog_41_method_8_code 1 = .ok (.getstatic 16, 3) := by decide +kernel
theorem d9_4 : decode prog_41_method_8_code 4 = .ok (.if_acmp .ne 7, 3) := by decide +kernel
theorem d9_11 : decode prog_41_method_8_code 11 = .ok (.iconst 0, 1) := by decide +kernel
theorem d9_12 : decode prog_41_method_8_code 12 = .ok (.ireturn, 1) := by decide +kernel
theorem pn9 : plainName "com/example/bare_ranker/bareranker/search/Model" = true := by first | (simp [plainName, overriddenIn]; done) | decide +kernel
theorem ef9 (m : MethodId) (x0 : Addr) : entryFrame m #[(.ref x0)] 1 = mkF m 0 #[.val (.ref x0)] [] := by first | (simp [entryFrame, mkF, argsToLocals, Value.category]; done) | rfl
def Q9 (Z : State) (a : Addr) (aF : Addr) (h0 : Heap) (n0 : Nat) (v : Option Value) (h : Heap) (L : List Loc) : Prop := v = some (.int 0) ∧ Fr n0 L ∧ h = h0
set_option maxRecDepth 65536 in
set_option maxHeartbeats 40000000 in
theorem rm9 (l : Launch) (Z : State) (a0 : Array Value) (hw : ∀ d ∈ tables_1, d.before a0 Z = true) (ws : List Jvm.Cond) (a : Addr) (aF : Addr) (h0 : Heap) (n0 : Nat) (Z0 : n0 ≤ h0.size) (SF : Sta Z h0 "com/example/bare_ranker/bareranker/search/Model" "BM25F" "Lcom/example/bare_ranker/bareranker/search/Model;" (.ref aF)) (h1 : a ≠ aF) :
    MetFree l (⟨"com/example/bare_ranker/bareranker/search/Model", "weighsFields", "()Z"⟩ : MethodName) (head1 (Jvm.Cond.code (⟨"com/example/bare_ranker/bareranker/search/Model", "weighsFields", "()Z"⟩ : MethodName) prog_41_method_8_code 1 (some .boolean) :: ws) ({ frames := 0, cells := 0, slots := 0, locals := 0 } : Room)) (fun aa U => aa = #[(.ref a)] ∧ Z.Warmed39 U.vm ∧ U.heap = h0) (fun _ _ _ _ _ => True) (fun _ UU oo UU' => ∃ vv LL, oo = .returned vv ∧ Q9 Z a aF h0 n0 vv UU'.heap LL ∧ FrameEnd UU oo UU' LL ({ frames := 0, cells := 0, slots := 0, locals := 0 } : Room).cells ({ frames := 0, cells := 0, slots := 0, locals := 0 } : Room).slots) := by
  refine MetFree.of_bodySF (plainFor_of_name pn9) hisR ?_
  intro p e s m args below meth c s₁ Bd hml0 hP hK
  obtain ⟨rfl, hZ, hh⟩ := hP
  have hx := Bd.exec
  have hby := Bd.bytes
  have hml : c.maxLocals = 1 := hml0
  have hown : s.vm.findClass "com/example/bare_ranker/bareranker/search/Model" = some m.cls := findClass_of_methodNamed Bd.named
  have hnm := (name_of_methodNamed Bd.named Bd.method).1
  have X0 : Stand p l e ({ frames := 0, cells := 0, slots := 0, locals := 0 } : Room) s m #[(.ref a)] below meth c s₁ [] 0 0 := Stand.of_body Bd
  have e0 : s₁.heap = h0 := by rw [← hh, Bd.state]; rfl
  have N0 := Fr.nil n0
  show Ends p e below (fun tt oo => ∃ vv LL, oo = .returned vv ∧ Q9 Z a aF h0 n0 vv tt.heap LL ∧ FrameEnd s oo tt LL ({ frames := 0, cells := 0, slots := 0, locals := 0 } : Room).cells ({ frames := 0, cells := 0, slots := 0, locals := 0 } : Room).slots) (s₁.setTop (entryFrame m #[(.ref a)] 1))
  refine Ends.pre (fun t k => castTop (ef9 m a) k) ?_
  show Ends p e below _ (s₁.setTop (mkF m 0 #[.val (.ref a)] []))
  refine Ends.pre (fun tt kt => XS.aloadN X0.here hx rfl (hb hby d9_0) rfl rfl kt) ?_
  show Ends p e below _ (s₁.setTop (mkF m 1 #[.val (.ref a)] [(.ref a)]))
  obtain ⟨T5, X5, e5, st5⟩ := getS2 X0 hx hZ hown (host := "") (Or.inl (hw _ (List.mem_of_getElem? (i := 61) rfl))) Via.refl e0 SF (g := (mkF m 1 #[.val (.ref a)] [(.ref a)])) rfl (hb hby d9_1)
  refine Ends.pre (fun tt kt => st5 _ kt) ?_
  show Ends p e below _ (T5.setTop (mkF m 4 #[.val (.ref a)] [(.ref aF), (.ref a)]))
  refine Ends.pre (fun tt kt => Jvm.RoadKit.acmp (g := (mkF m 4 #[.val (.ref a)] [(.ref aF), (.ref a)])) X5 hx rfl rfl rfl (pc0 := 4) (pc' := 11) (same := false) rfl (hb hby d9_4) rfl (decide_eq_false fun q => h1 (Value.ref.inj q)) (by decide) (by decide) kt) ?_
  show Ends p e below _ (T5.setTop (mkF m 11 #[.val (.ref a)] []))
  refine Ends.pre (fun tt kt => XS.iconst X5.here hx rfl (hb hby d9_11) kt) ?_
  show Ends p e below _ (T5.setTop (mkF m 12 #[.val (.ref a)] [(.int (0 : Int32))]))
  obtain ⟨fs, hr, hrun, hended, hW, hsame⟩ := X5.leave (v := some (.int (0 : Int32))) (fun h => by rw [Bd.returns] at h; cases h)
  refine ⟨_, _, retN X5 hx (t := .boolean) Bd.returns (by simp) (hb hby d9_12) hr, hrun, hended, _, _, rfl, ?_, ⟨_, rfl⟩, hW, hsame.mono (by decide) (by decide)⟩
  show Q9 Z _ _ h0 n0 _ T5.heap _
  rw [e5]
  exact ⟨rfl, N0, rfl⟩
theorem d10_0 : decode prog_41_method_7_code 0 = .ok (.aload_n 1, 1) := by decide +kernel
theorem d10_1 : decode prog_41_method_7_code 1 = .ok (.getstatic 46, 3) := by decide +kernel
theorem d10_4 : decode prog_41_method_7_code 4 = .ok (.if_acmp .eq 17, 3) := by decide +kernel
theorem d10_21 : decode prog_41_method_7_code 21 = .ok (.iconst 1, 1) := by decide +kernel
theorem d10_22 : decode prog_41_method_7_code 22 = .ok (.goto 4, 3) := by decide +kernel
theorem d10_26 : decode prog_41_method_7_code 26 = .ok (.ireturn, 1) := by decide +kernel
theorem pn10 : plainName "com/example/bare_ranker/bareranker/search/Model" = true := by first | (simp [plainName, overriddenIn]; done) | decide +kernel
theorem ef10 (m : MethodId) (x0 : Addr) (x1 : Addr) : entryFrame m #[(.ref x0), (.ref x1)] 2 = mkF m 0 #[.val (.ref x0), .val (.ref x1)] [] := by first | (simp [entryFrame, mkF, argsToLocals, Value.category]; done) | rfl
def Q10 (Z : State) (a : Addr) (an : Addr) (h0 : Heap) (n0 : Nat) (v : Option Value) (h : Heap) (L : List Loc) : Prop := v = some (.int 1) ∧ Fr n0 L ∧ h = h0
set_option maxRecDepth 65536 in
set_option maxHeartbeats 40000000 in
theorem rm10 (l : Launch) (Z : State) (a0 : Array Value) (hw : ∀ d ∈ tables_1, d.before a0 Z = true) (ws : List Jvm.Cond) (a : Addr) (an : Addr) (h0 : Heap) (n0 : Nat) (Z0 : n0 ≤ h0.size) (SV : Sta Z h0 "com/example/bare_ranker/bareranker/search/LengthNorm" "PIVOTED" "Lcom/example/bare_ranker/bareranker/search/LengthNorm;" (.ref an)) :
    MetFree l (⟨"com/example/bare_ranker/bareranker/search/Model", "takesNorm", "(Lcom/example/bare_ranker/bareranker/search/LengthNorm;)Z"⟩ : MethodName) (head1 (Jvm.Cond.code (⟨"com/example/bare_ranker/bareranker/search/Model", "takesNorm", "(Lcom/example/bare_ranker/bareranker/search/LengthNorm;)Z"⟩ : MethodName) prog_41_method_7_code 2 (some .boolean) :: ws) ({ frames := 0, cells := 0, slots := 0, locals := 0 } : Room)) (fun aa U => aa = #[(.ref a), (.ref an)] ∧ Z.Warmed39 U.vm ∧ U.heap = h0) (fun _ _ _ _ _ => True) (fun _ UU oo UU' => ∃ vv LL, oo = .returned vv ∧ Q10 Z a an h0 n0 vv UU'.heap LL ∧ FrameEnd UU oo UU' LL ({ frames := 0, cells := 0, slots := 0, locals := 0 } : Room).cells ({ frames := 0, cells := 0, slots := 0, locals := 0 } : Room).slots) := by
  refine MetFree.of_bodySF (plainFor_of_name pn10) hisR ?_
  intro p e s m args below meth c s₁ Bd hml0 hP hK
  obtain ⟨rfl, hZ, hh⟩ := hP
  have hx := Bd.exec
  have hby := Bd.bytes
  have hml : c.maxLocals = 2 := hml0
  have hown : s.vm.findClass "com/example/bare_ranker/bareranker/search/Model" = some m.cls := findClass_of_methodNamed Bd.named
  have hnm := (name_of_methodNamed Bd.named Bd.method).1
  have X0 : Stand p l e ({ frames := 0, cells := 0, slots := 0, locals := 0 } : Room) s m #[(.ref a), (.ref an)] below meth c s₁ [] 0 0 := Stand.of_body Bd
  have e0 : s₁.heap = h0 := by rw [← hh, Bd.state]; rfl
  have N0 := Fr.nil n0
  show Ends p e below (fun tt oo => ∃ vv LL, oo = .returned vv ∧ Q10 Z a an h0 n0 vv tt.heap LL ∧ FrameEnd s oo tt LL ({ frames := 0, cells := 0, slots := 0, locals := 0 } : Room).cells ({ frames := 0, cells := 0, slots := 0, locals := 0 } : Room).slots) (s₁.setTop (entryFrame m #[(.ref a), (.ref an)] 2))
  refine Ends.pre (fun t k => castTop (ef10 m a an) k) ?_
  show Ends p e below _ (s₁.setTop (mkF m 0 #[.val (.ref a), .val (.ref an)] []))
  refine Ends.pre (fun tt kt => XS.aloadN X0.here hx rfl (hb hby d10_0) rfl rfl kt) ?_
  show Ends p e below _ (s₁.setTop (mkF m 1 #[.val (.ref a), .val (.ref an)] [(.ref an)]))
  obtain ⟨T6, X6, e6, st6⟩ := getS2 X0 hx hZ hown (host := "") (Or.inl (hw _ (List.mem_of_getElem? (i := 68) rfl))) Via.refl e0 SV (g := (mkF m 1 #[.val (.ref a), .val (.ref an)] [(.ref an)])) rfl (hb hby d10_1)
  refine Ends.pre (fun tt kt => st6 _ kt) ?_
  show Ends p e below _ (T6.setTop (mkF m 4 #[.val (.ref a), .val (.ref an)] [(.ref an), (.ref an)]))
  refine Ends.pre (fun tt kt => Jvm.RoadKit.acmp (g := (mkF m 4 #[.val (.ref a), .val (.ref an)] [(.ref an), (.ref an)])) X6 hx rfl rfl rfl (pc0 := 4) (pc' := 21) (same := true) rfl (hb hby d10_4) rfl (decide_eq_true rfl) (by decide) (by decide) kt) ?_
  show Ends p e below _ (T6.setTop (mkF m 21 #[.val (.ref a), .val (.ref an)] []))
  refine Ends.pre (fun tt kt => XS.iconst X6.here hx rfl (hb hby d10_21) kt) ?_
  show Ends p e below _ (T6.setTop (mkF m 22 #[.val (.ref a), .val (.ref an)] [(.int (1 : Int32))]))
  refine Ends.pre (fun tt kt => XS.goto X6.here hx rfl (pc0 := 22) (pc' := 26) rfl (hb hby d10_22) (by decide) (by decide) kt) ?_
  show Ends p e below _ (T6.setTop (mkF m 26 #[.val (.ref a), .val (.ref an)] [(.int (1 : Int32))]))
  obtain ⟨fs, hr, hrun, hended, hW, hsame⟩ := X6.leave (v := some (.int (1 : Int32))) (fun h => by rw [Bd.returns] at h; cases h)
  refine ⟨_, _, retN X6 hx (t := .boolean) Bd.returns (by simp) (hb hby d10_26) hr, hrun, hended, _, _, rfl, ?_, ⟨_, rfl⟩, hW, hsame.mono (by decide) (by decide)⟩
  show Q10 Z _ _ h0 n0 _ T6.heap _
  rw [e6]
  exact ⟨rfl, N0, rfl⟩
theorem d11_0 : decode jdk_31_method_10_code 0 = .ok (.aload_n 0, 1) := by decide +kernel
theorem d11_1 : decode jdk_31_method_10_code 1 = .ok (.ifnonnull 11, 3) := by decide +kernel
theorem d11_12 : decode jdk_31_method_10_code 12 = .ok (.aload_n 0, 1) := by decide +kernel
theorem d11_13 : decode jdk_31_method_10_code 13 = .ok (.areturn, 1) := by decide +kernel
theorem pn11 : plainName "java/util/Objects" = true := by first | (simp [plainName, overriddenIn]; done) | decide +kernel
theorem ef11 (m : MethodId) (x0 : Addr) : entryFrame m #[(.ref x0)] 1 = mkF m 0 #[.val (.ref x0)] [] := by first | (simp [entryFrame, mkF, argsToLocals, Value.category]; done) | rfl
def Q11 (Z : State) (a : Addr) (h0 : Heap) (n0 : Nat) (v : Option Value) (h : Heap) (L : List Loc) : Prop := v = some (.ref a) ∧ Fr n0 L ∧ h = h0
set_option maxRecDepth 65536 in
set_option maxHeartbeats 40000000 in
theorem rm11 (l : Launch) (Z : State) (a0 : Array Value) (hw : ∀ d ∈ tables_1, d.before a0 Z = true) (ws : List Jvm.Cond) (a : Addr) (h0 : Heap) (n0 : Nat) (Z0 : n0 ≤ h0.size) :
    MetFree l (⟨"java/util/Objects", "requireNonNull", "(Ljava/lang/Object;)Ljava/lang/Object;"⟩ : MethodName) (head1 (Jvm.Cond.code (⟨"java/util/Objects", "requireNonNull", "(Ljava/lang/Object;)Ljava/lang/Object;"⟩ : MethodName) jdk_31_method_10_code 1 (some (.object "java/lang/Object")) :: ws) ({ frames := 0, cells := 0, slots := 0, locals := 0 } : Room)) (fun aa U => aa = #[(.ref a)] ∧ Z.Warmed39 U.vm ∧ U.heap = h0) (fun _ _ _ _ _ => True) (fun _ UU oo UU' => ∃ vv LL, oo = .returned vv ∧ Q11 Z a h0 n0 vv UU'.heap LL ∧ FrameEnd UU oo UU' LL ({ frames := 0, cells := 0, slots := 0, locals := 0 } : Room).cells ({ frames := 0, cells := 0, slots := 0, locals := 0 } : Room).slots) := by
  refine MetFree.of_bodySF (plainFor_of_name pn11) hisR ?_
  intro p e s m args below meth c s₁ Bd hml0 hP hK
  obtain ⟨rfl, hZ, hh⟩ := hP
  have hx := Bd.exec
  have hby := Bd.bytes
  have hml : c.maxLocals = 1 := hml0
  have hown : s.vm.findClass "java/util/Objects" = some m.cls := findClass_of_methodNamed Bd.named
  have hnm := (name_of_methodNamed Bd.named Bd.method).1
  have X0 : Stand p l e ({ frames := 0, cells := 0, slots := 0, locals := 0 } : Room) s m #[(.ref a)] below meth c s₁ [] 0 0 := Stand.of_body Bd
  have e0 : s₁.heap = h0 := by rw [← hh, Bd.state]; rfl
  have N0 := Fr.nil n0
  show Ends p e below (fun tt oo => ∃ vv LL, oo = .returned vv ∧ Q11 Z a h0 n0 vv tt.heap LL ∧ FrameEnd s oo tt LL ({ frames := 0, cells := 0, slots := 0, locals := 0 } : Room).cells ({ frames := 0, cells := 0, slots := 0, locals := 0 } : Room).slots) (s₁.setTop (entryFrame m #[(.ref a)] 1))
  refine Ends.pre (fun t k => castTop (ef11 m a) k) ?_
  show Ends p e below _ (s₁.setTop (mkF m 0 #[.val (.ref a)] []))
  refine Ends.pre (fun tt kt => XS.aloadN X0.here hx rfl (hb hby d11_0) rfl rfl kt) ?_
  show Ends p e below _ (s₁.setTop (mkF m 1 #[.val (.ref a)] [(.ref a)]))
  refine Ends.pre (fun tt kt => XS.ifnonnullYes X0.here hx rfl (pc0 := 1) (pc' := 12) rfl (hb hby d11_1) rfl (by decide) (by decide) kt) ?_
  show Ends p e below _ (s₁.setTop (mkF m 12 #[.val (.ref a)] []))
  refine Ends.pre (fun tt kt => XS.aloadN X0.here hx rfl (hb hby d11_12) rfl rfl kt) ?_
  show Ends p e below _ (s₁.setTop (mkF m 13 #[.val (.ref a)] [(.ref a)]))
  obtain ⟨fs, hr, hrun, hended, hW, hsame⟩ := X0.leave (v := some (.ref a)) (fun h => by rw [Bd.returns] at h; cases h)
  refine ⟨_, _, retOut X0 hx Bd.returns rfl (Or.inr (Or.inr (Or.inr (Or.inr ⟨rfl, rfl, rfl⟩)))) (hb hby d11_13) hr, hrun, hended, _, _, rfl, ?_, ⟨_, rfl⟩, hW, hsame.mono (by decide) (by decide)⟩
  show Q11 Z _ h0 n0 _ s₁.heap _
  rw [e0]
  exact ⟨rfl, N0, rfl⟩
theorem d4_0 : decode prog_32_method_3_code 0 = .ok (.aload_n 0, 1) := by decide +kernel
theorem d4_1 : decode prog_32_method_3_code 1 = .ok (.invokespecial 32, 3) := by decide +kernel
theorem d4_4 : decode prog_32_method_3_code 4 = .ok (.dload_n 2, 1) := by decide +kernel
theorem d4_5 : decode prog_32_method_3_code 5 = .ok (.dconst 0, 1) := by decide +kernel
theorem d4_6 : decode prog_32_method_3_code 6 = .ok (.dcmp .l, 1) := by decide +kernel
theorem d4_7 : decode prog_32_method_3_code 7 = .ok (.ifCond .lt 32, 3) := by decide +kernel
theorem d4_10 : decode prog_32_method_3_code 10 = .ok (.dload_n 2, 1) := by decide +kernel
theorem d4_11 : decode prog_32_method_3_code 11 = .ok (.ldc2_w 37, 3) := by decide +kernel
theorem d4_14 : decode prog_32_method_3_code 14 = .ok (.dcmp .g, 1) := by decide +kernel
theorem d4_15 : decode prog_32_method_3_code 15 = .ok (.ifCond .gt 24, 3) := by decide +kernel
theorem d4_18 : decode prog_32_method_3_code 18 = .ok (.dload 4, 2) := by decide +kernel
theorem d4_20 : decode prog_32_method_3_code 20 = .ok (.dconst 0, 1) := by decide +kernel
theorem d4_21 : decode prog_32_method_3_code 21 = .ok (.dcmp .l, 1) := by decide +kernel
theorem d4_22 : decode prog_32_method_3_code 22 = .ok (.ifCond .lt 17, 3) := by decide +kernel
theorem d4_25 : decode prog_32_method_3_code 25 = .ok (.dload 4, 2) := by decide +kernel
theorem d4_27 : decode prog_32_method_3_code 27 = .ok (.dconst 1, 1) := by decide +kernel
theorem d4_28 : decode prog_32_method_3_code 28 = .ok (.dcmp .g, 1) := by decide +kernel
theorem d4_29 : decode prog_32_method_3_code 29 = .ok (.ifCond .gt 10, 3) := by decide +kernel
theorem d4_32 : decode prog_32_method_3_code 32 = .ok (.dload 8, 2) := by decide +kernel
theorem d4_34 : decode prog_32_method_3_code 34 = .ok (.dconst 0, 1) := by decide +kernel
theorem d4_35 : decode prog_32_method_3_code 35 = .ok (.dcmp .l, 1) := by decide +kernel
theorem d4_36 : decode prog_32_method_3_code 36 = .ok (.ifCond .ge 21, 3) := by decide +kernel
theorem d4_57 : decode prog_32_method_3_code 57 = .ok (.dload 10, 2) := by decide +kernel
theorem d4_59 : decode prog_32_method_3_code 59 = .ok (.dconst 0, 1) := by decide +kernel
theorem d4_60 : decode prog_32_method_3_code 60 = .ok (.dcmp .l, 1) := by decide +kernel
theorem d4_61 : decode prog_32_method_3_code 61 = .ok (.ifCond .lt 26, 3) := by decide +kernel
theorem d4_64 : decode prog_32_method_3_code 64 = .ok (.dload 10, 2) := by decide +kernel
theorem d4_66 : decode prog_32_method_3_code 66 = .ok (.ldc2_w 37, 3) := by decide +kernel
theorem d4_69 : decode prog_32_method_3_code 69 = .ok (.dcmp .g, 1) := by decide +kernel
theorem d4_70 : decode prog_32_method_3_code 70 = .ok (.ifCond .gt 17, 3) := by decide +kernel
theorem d4_73 : decode prog_32_method_3_code 73 = .ok (.aload_n 1, 1) := by decide +kernel
theorem d4_74 : decode prog_32_method_3_code 74 = .ok (.invokevirtual 48, 3) := by decide +kernel
theorem d4_77 : decode prog_32_method_3_code 77 = .ok (.ifCond .ne 29, 3) := by decide +kernel
theorem d4_80 : decode prog_32_method_3_code 80 = .ok (.dload 10, 2) := by decide +kernel
theorem d4_82 : decode prog_32_method_3_code 82 = .ok (.dconst 0, 1) := by decide +kernel
theorem d4_83 : decode prog_32_method_3_code 83 = .ok (.dcmp .l, 1) := by decide +kernel
theorem d4_84 : decode prog_32_method_3_code 84 = .ok (.ifCond .eq 22, 3) := by decide +kernel
theorem d4_106 : decode prog_32_method_3_code 106 = .ok (.aload_n 1, 1) := by decide +kernel
theorem d4_107 : decode prog_32_method_3_code 107 = .ok (.invokevirtual 59, 3) := by decide +kernel
theorem d4_110 : decode prog_32_method_3_code 110 = .ok (.ifCond .eq 42, 3) := by decide +kernel
theorem d4_152 : decode prog_32_method_3_code 152 = .ok (.aload 6, 2) := by decide +kernel
theorem d4_154 : decode prog_32_method_3_code 154 = .ok (.invokevirtual 68, 3) := by decide +kernel
theorem d4_157 : decode prog_32_method_3_code 157 = .ok (.ifCond .ne 32, 3) := by decide +kernel
theorem d4_189 : decode prog_32_method_3_code 189 = .ok (.aload_n 1, 1) := by decide +kernel
theorem d4_190 : decode prog_32_method_3_code 190 = .ok (.invokevirtual 75, 3) := by decide +kernel
theorem d4_193 : decode prog_32_method_3_code 193 = .ok (.ifCond .eq 31, 3) := by decide +kernel
theorem d4_224 : decode prog_32_method_3_code 224 = .ok (.aload_n 1, 1) := by decide +kernel
theorem d4_225 : decode prog_32_method_3_code 225 = .ok (.aload 6, 2) := by decide +kernel
theorem d4_227 : decode prog_32_method_3_code 227 = .ok (.invokevirtual 79, 3) := by decide +kernel
theorem d4_230 : decode prog_32_method_3_code 230 = .ok (.ifCond .ne 25, 3) := by decide +kernel
theorem d4_255 : decode prog_32_method_3_code 255 = .ok (.aload_n 0, 1) := by decide +kernel
theorem d4_256 : decode prog_32_method_3_code 256 = .ok (.aload_n 1, 1) := by decide +kernel
theorem d4_257 : decode prog_32_method_3_code 257 = .ok (.putfield 86, 3) := by decide +kernel
theorem d4_260 : decode prog_32_method_3_code 260 = .ok (.aload_n 0, 1) := by decide +kernel
theorem d4_261 : decode prog_32_method_3_code 261 = .ok (.dload_n 2, 1) := by decide +kernel
theorem d4_262 : decode prog_32_method_3_code 262 = .ok (.putfield 89, 3) := by decide +kernel
theorem d4_265 : decode prog_32_method_3_code 265 = .ok (.aload_n 0, 1) := by decide +kernel
theorem d4_266 : decode prog_32_method_3_code 266 = .ok (.dload 4, 2) := by decide +kernel
theorem d4_268 : decode prog_32_method_3_code 268 = .ok (.putfield 93, 3) := by decide +kernel
theorem d4_271 : decode prog_32_method_3_code 271 = .ok (.aload_n 0, 1) := by decide +kernel
theorem d4_272 : decode prog_32_method_3_code 272 = .ok (.aload 6, 2) := by decide +kernel
theorem d4_274 : decode prog_32_method_3_code 274 = .ok (.putfield 96, 3) := by decide +kernel
theorem d4_277 : decode prog_32_method_3_code 277 = .ok (.aload_n 0, 1) := by decide +kernel
theorem d4_278 : decode prog_32_method_3_code 278 = .ok (.aload 7, 2) := by decide +kernel
theorem d4_280 : decode prog_32_method_3_code 280 = .ok (.invokestatic 99, 3) := by decide +kernel
theorem d4_283 : decode prog_32_method_3_code 283 = .ok (.checkcast 4, 3) := by decide +kernel
theorem d4_286 : decode prog_32_method_3_code 286 = .ok (.putfield 105, 3) := by decide +kernel
theorem d4_289 : decode prog_32_method_3_code 289 = .ok (.aload_n 0, 1) := by decide +kernel
theorem d4_290 : decode prog_32_method_3_code 290 = .ok (.dload 8, 2) := by decide +kernel
theorem d4_292 : decode prog_32_method_3_code 292 = .ok (.putfield 108, 3) := by decide +kernel
theorem d4_295 : decode prog_32_method_3_code 295 = .ok (.aload_n 0, 1) := by decide +kernel
theorem d4_296 : decode prog_32_method_3_code 296 = .ok (.dload 10, 2) := by decide +kernel
theorem d4_298 : decode prog_32_method_3_code 298 = .ok (.putfield 111, 3) := by decide +kernel
theorem d4_301 : decode prog_32_method_3_code 301 = .ok (.return_, 1) := by decide +kernel
theorem pd4_0 : parseMethodDescriptor "()Z" = some ⟨[], some .boolean⟩ := by decide +kernel
theorem pd4_1 : parseMethodDescriptor "(Lcom/example/bare_ranker/bareranker/search/LengthNorm;)Z" = some ⟨[(.object "com/example/bare_ranker/bareranker/search/LengthNorm")], some .boolean⟩ := by decide +kernel
theorem pd4_2 : parseMethodDescriptor "(Ljava/lang/Object;)Ljava/lang/Object;" = some ⟨[(.object "java/lang/Object")], some (.object "java/lang/Object")⟩ := by decide +kernel
theorem pn4 : plainName "com/example/bare_ranker/bareranker/search/Bm25" = true := by first | (simp [plainName, overriddenIn]; done) | decide +kernel
theorem ef4 (m : MethodId) (x0 : Addr) (x1 : Addr) (x2 : UInt64) (x3 : UInt64) (x4 : Addr) (x5 : Addr) (x6 : UInt64) (x7 : UInt64) : entryFrame m #[(.ref x0), (.ref x1), (.double x2), (.double x3), (.ref x4), (.ref x5), (.double x6), (.double x7)] 12 = mkF m 0 #[.val (.ref x0), .val (.ref x1), .val (.double x2), .second, .val (.double x3), .second, .val (.ref x4), .val (.ref x5), .val (.double x6), .second, .val (.double x7), .second] [] := by first | (simp [entryFrame, mkF, argsToLocals, Value.category]; done) | rfl
def Q4 (Z : State) (o : Addr) (am : Addr) (an : Addr) (ai : Addr) (aL : Addr) (aP : Addr) (aA : Addr) (aF : Addr) (k3 : UInt64) (h0 : Heap) (n0 : Nat) (v : Option Value) (h : Heap) (L : List Loc) : Prop := v = none ∧ Fr n0 L ∧ Keep h0 h [o] ∧ Exa Z h o "com/example/bare_ranker/bareranker/search/Bm25" ∧ Fld Z h o "com/example/bare_ranker/bareranker/search/Bm25" "k3" "D" (.double k3)
set_option maxRecDepth 65536 in
set_option maxHeartbeats 40000000 in
theorem rm4 (l : Launch) (Z : State) (a0 : Array Value) (hw : ∀ d ∈ tables_1, d.before a0 Z = true) (ws : List Jvm.Cond) (o : Addr) (am : Addr) (an : Addr) (ai : Addr) (aL : Addr) (aP : Addr) (aA : Addr) (aF : Addr) (k3 : UInt64) (h0 : Heap) (n0 : Nat) (Z0 : n0 ≤ h0.size) (F_model_o : Fld Z h0 o "com/example/bare_ranker/bareranker/search/Bm25" "model" "Lcom/example/bare_ranker/bareranker/search/Model;" .null) (F_k1_o : Fld Z h0 o "com/example/bare_ranker/bareranker/search/Bm25" "k1" "D" (.double (0 : UInt64))) (F_b_o : Fld Z h0 o "com/example/bare_ranker/bareranker/search/Bm25" "b" "D" (.double (0 : UInt64))) (F_norm_o : Fld Z h0 o "com/example/bare_ranker/bareranker/search/Bm25" "norm" "Lcom/example/bare_ranker/bareranker/search/LengthNorm;" .null) (F_idfForm_o : Fld Z h0 o "com/example/bare_ranker/bareranker/search/Bm25" "idfForm" "Lcom/example/bare_ranker/bareranker/search/Idf;" .null) (F_k3_o : Fld Z h0 o "com/example/bare_ranker/bareranker/search/Bm25" "k3" "D" (.double (0 : UInt64))) (F_delta_o : Fld Z h0 o "com/example/bare_ranker/bareranker/search/Bm25" "delta" "D" (.double (0 : UInt64))) (E_o : Exa Z h0 o "com/example/bare_ranker/bareranker/search/Bm25") (g_o : n0 ≤ o) (E_am : Exa Z h0 am "com/example/bare_ranker/bareranker/search/Model") (E_an : Exa Z h0 an "com/example/bare_ranker/bareranker/search/LengthNorm") (E_ai : Exa Z h0 ai "com/example/bare_ranker/bareranker/search/Idf") (SL : Sta Z h0 "com/example/bare_ranker/bareranker/search/Model" "BM25L" "Lcom/example/bare_ranker/bareranker/search/Model;" (.ref aL)) (SP : Sta Z h0 "com/example/bare_ranker/bareranker/search/Model" "BM25_PLUS" "Lcom/example/bare_ranker/bareranker/search/Model;" (.ref aP)) (SA : Sta Z h0 "com/example/bare_ranker/bareranker/search/Model" "BM25_ADPT" "Lcom/example/bare_ranker/bareranker/search/Model;" (.ref aA)) (SF : Sta Z h0 "com/example/bare_ranker/bareranker/search/Model" "BM25F" "Lcom/example/bare_ranker/bareranker/search/Model;" (.ref aF)) (SV : Sta Z h0 "com/example/bare_ranker/bareranker/search/LengthNorm" "PIVOTED" "Lcom/example/bare_ranker/bareranker/search/LengthNorm;" (.ref an)) (n1 : am ≠ aL) (n2 : am ≠ aP) (n3 : am ≠ aA) (n4 : am ≠ aF) (hk3 : ¬ (cmpValue (FP.dcmp k3 FP.dconst0) .l) < (0 : Int32)) :
    MetFree l (⟨"com/example/bare_ranker/bareranker/search/Bm25", "<init>", "(Lcom/example/bare_ranker/bareranker/search/Model;DDLcom/example/bare_ranker/bareranker/search/LengthNorm;Lcom/example/bare_ranker/bareranker/search/Idf;DD)V"⟩ : MethodName) (head1 (Jvm.Cond.code (⟨"com/example/bare_ranker/bareranker/search/Bm25", "<init>", "(Lcom/example/bare_ranker/bareranker/search/Model;DDLcom/example/bare_ranker/bareranker/search/LengthNorm;Lcom/example/bare_ranker/bareranker/search/Idf;DD)V"⟩ : MethodName) prog_32_method_3_code 12 none :: ws) ({ frames := 1, cells := 0, slots := 0, locals := 13 } : Room)) (fun aa U => aa = #[(.ref o), (.ref am), (.double (4608083138725491507 : UInt64)), (.double (4604930618986332160 : UInt64)), (.ref an), (.ref ai), (.double k3), (.double FP.dconst0)] ∧ Z.Warmed39 U.vm ∧ U.heap = h0) (fun _ _ _ _ _ => True) (fun _ UU oo UU' => ∃ vv LL, oo = .returned vv ∧ Q4 Z o am an ai aL aP aA aF k3 h0 n0 vv UU'.heap LL ∧ FrameEnd UU oo UU' LL ({ frames := 1, cells := 0, slots := 0, locals := 13 } : Room).cells ({ frames := 1, cells := 0, slots := 0, locals := 13 } : Room).slots) := by
  refine MetFree.of_bodySF (plainFor_of_name pn4) hisR ?_
  intro p e s m args below meth c s₁ Bd hml0 hP hK
  obtain ⟨rfl, hZ, hh⟩ := hP
  have hx := Bd.exec
  have hby := Bd.bytes
  have hml : c.maxLocals = 12 := hml0
  have hown : s.vm.findClass "com/example/bare_ranker/bareranker/search/Bm25" = some m.cls := findClass_of_methodNamed Bd.named
  have hnm := (name_of_methodNamed Bd.named Bd.method).1
  have X0 : Stand p l e ({ frames := 1, cells := 0, slots := 0, locals := 13 } : Room) s m #[(.ref o), (.ref am), (.double (4608083138725491507 : UInt64)), (.double (4604930618986332160 : UInt64)), (.ref an), (.ref ai), (.double k3), (.double FP.dconst0)] below meth c s₁ [] 0 0 := Stand.of_body Bd
  have e0 : s₁.heap = h0 := by rw [← hh, Bd.state]; rfl
  have N0 := Fr.nil n0
  show Ends p e below (fun tt oo => ∃ vv LL, oo = .returned vv ∧ Q4 Z o am an ai aL aP aA aF k3 h0 n0 vv tt.heap LL ∧ FrameEnd s oo tt LL ({ frames := 1, cells := 0, slots := 0, locals := 13 } : Room).cells ({ frames := 1, cells := 0, slots := 0, locals := 13 } : Room).slots) (s₁.setTop (entryFrame m #[(.ref o), (.ref am), (.double (4608083138725491507 : UInt64)), (.double (4604930618986332160 : UInt64)), (.ref an), (.ref ai), (.double k3), (.double FP.dconst0)] 12))
  refine Ends.pre (fun t k => castTop (ef4 m o am (4608083138725491507 : UInt64) (4604930618986332160 : UInt64) an ai k3 FP.dconst0) k) ?_
  show Ends p e below _ (s₁.setTop (mkF m 0 #[.val (.ref o), .val (.ref am), .val (.double (4608083138725491507 : UInt64)), .second, .val (.double (4604930618986332160 : UInt64)), .second, .val (.ref an), .val (.ref ai), .val (.double k3), .second, .val (.double FP.dconst0), .second] []))
  have K0 := Keep.refl h0 [o]
  refine Ends.pre (fun tt kt => XS.aloadN X0.here hx rfl (hb hby d4_0) rfl rfl kt) ?_
  show Ends p e below _ (s₁.setTop (mkF m 1 #[.val (.ref o), .val (.ref am), .val (.double (4608083138725491507 : UInt64)), .second, .val (.double (4604930618986332160 : UInt64)), .second, .val (.ref an), .val (.ref ai), .val (.double k3), .second, .val (.double FP.dconst0), .second] [(.ref o)]))
  obtain ⟨T7, X7, e7, st7⟩ := initO X0 hx hZ hown (hw _ (List.mem_of_getElem? (i := 30) rfl)) (hw _ (List.mem_of_getElem? (i := 31) rfl)) (hw _ (List.mem_of_getElem? (i := 32) rfl)) e0 (g := (mkF m 1 #[.val (.ref o), .val (.ref am), .val (.double (4608083138725491507 : UInt64)), .second, .val (.double (4604930618986332160 : UInt64)), .second, .val (.ref an), .val (.ref ai), .val (.double k3), .second, .val (.double FP.dconst0), .second] [(.ref o)])) rfl (by rw [hml]; rfl) rfl (hb hby d4_1) (by decide) (W := 0) (by show 2 * 0 + _ ≤ _; exact Nat.le_of_eq rfl) (by decide)
  refine Ends.pre (fun tt kt => st7 _ kt) ?_
  show Ends p e below _ (T7.setTop (mkF m 4 #[.val (.ref o), .val (.ref am), .val (.double (4608083138725491507 : UInt64)), .second, .val (.double (4604930618986332160 : UInt64)), .second, .val (.ref an), .val (.ref ai), .val (.double k3), .second, .val (.double FP.dconst0), .second] []))
  refine Ends.pre (fun tt kt => XS.dloadN X7.here hx rfl (hb hby d4_4) rfl kt) ?_
  show Ends p e below _ (T7.setTop (mkF m 5 #[.val (.ref o), .val (.ref am), .val (.double (4608083138725491507 : UInt64)), .second, .val (.double (4604930618986332160 : UInt64)), .second, .val (.ref an), .val (.ref ai), .val (.double k3), .second, .val (.double FP.dconst0), .second] [(.double (4608083138725491507 : UInt64))]))
  refine Ends.pre (fun tt kt => XS.dconst0 X7.here hx rfl (hb hby d4_5) rfl kt) ?_
  show Ends p e below _ (T7.setTop (mkF m 6 #[.val (.ref o), .val (.ref am), .val (.double (4608083138725491507 : UInt64)), .second, .val (.double (4604930618986332160 : UInt64)), .second, .val (.ref an), .val (.ref ai), .val (.double k3), .second, .val (.double FP.dconst0), .second] [(.double FP.dconst0), (.double (4608083138725491507 : UInt64))]))
  refine Ends.pre (fun tt kt => XS.dcmpS X7.here hx rfl (v := (1 : Int32)) (hb hby d4_6) rfl (by decide +kernel) kt) ?_
  show Ends p e below _ (T7.setTop (mkF m 7 #[.val (.ref o), .val (.ref am), .val (.double (4608083138725491507 : UInt64)), .second, .val (.double (4604930618986332160 : UInt64)), .second, .val (.ref an), .val (.ref ai), .val (.double k3), .second, .val (.double FP.dconst0), .second] [(.int (1 : Int32))]))
  refine Ends.pre (fun tt kt => XS.ifNo X7.here hx rfl (hb hby d4_7) rfl ((if0 _ _).trans (flt (by decide)).1) kt) ?_
  show Ends p e below _ (T7.setTop (mkF m 10 #[.val (.ref o), .val (.ref am), .val (.double (4608083138725491507 : UInt64)), .second, .val (.double (4604930618986332160 : UInt64)), .second, .val (.ref an), .val (.ref ai), .val (.double k3), .second, .val (.double FP.dconst0), .second] []))
  refine Ends.pre (fun tt kt => XS.dloadN X7.here hx rfl (hb hby d4_10) rfl kt) ?_
  show Ends p e below _ (T7.setTop (mkF m 11 #[.val (.ref o), .val (.ref am), .val (.double (4608083138725491507 : UInt64)), .second, .val (.double (4604930618986332160 : UInt64)), .second, .val (.ref an), .val (.ref ai), .val (.double k3), .second, .val (.double FP.dconst0), .second] [(.double (4608083138725491507 : UInt64))]))
  refine Ends.pre (fun tt kt => X7.ldc2DoubleC hx hown (mvT hZ (hw _ (List.mem_of_getElem? (i := 33) rfl))) (g := (mkF m 11 #[.val (.ref o), .val (.ref am), .val (.double (4608083138725491507 : UInt64)), .second, .val (.double (4604930618986332160 : UInt64)), .second, .val (.ref an), .val (.ref ai), .val (.double k3), .second, .val (.double FP.dconst0), .second] [(.double (4608083138725491507 : UInt64))])) rfl (hb hby d4_11) _ kt) ?_
  show Ends p e below _ (T7.setTop (mkF m 14 #[.val (.ref o), .val (.ref am), .val (.double (4608083138725491507 : UInt64)), .second, .val (.double (4604930618986332160 : UInt64)), .second, .val (.ref an), .val (.ref ai), .val (.double k3), .second, .val (.double FP.dconst0), .second] [(.double (4696837146684686336 : UInt64)), (.double (4608083138725491507 : UInt64))]))
  refine Ends.pre (fun tt kt => XS.dcmpS X7.here hx rfl (v := (-1 : Int32)) (hb hby d4_14) rfl (by decide +kernel) kt) ?_
  show Ends p e below _ (T7.setTop (mkF m 15 #[.val (.ref o), .val (.ref am), .val (.double (4608083138725491507 : UInt64)), .second, .val (.double (4604930618986332160 : UInt64)), .second, .val (.ref an), .val (.ref ai), .val (.double k3), .second, .val (.double FP.dconst0), .second] [(.int (-1 : Int32))]))
  refine Ends.pre (fun tt kt => XS.ifNo X7.here hx rfl (hb hby d4_15) rfl ((if0 _ _).trans (flt (by decide)).2.2.1) kt) ?_
  show Ends p e below _ (T7.setTop (mkF m 18 #[.val (.ref o), .val (.ref am), .val (.double (4608083138725491507 : UInt64)), .second, .val (.double (4604930618986332160 : UInt64)), .second, .val (.ref an), .val (.ref ai), .val (.double k3), .second, .val (.double FP.dconst0), .second] []))
  refine Ends.pre (fun tt kt => XS.dload X7.here hx rfl (hb hby d4_18) rfl kt) ?_
  show Ends p e below _ (T7.setTop (mkF m 20 #[.val (.ref o), .val (.ref am), .val (.double (4608083138725491507 : UInt64)), .second, .val (.double (4604930618986332160 : UInt64)), .second, .val (.ref an), .val (.ref ai), .val (.double k3), .second, .val (.double FP.dconst0), .second] [(.double (4604930618986332160 : UInt64))]))
  refine Ends.pre (fun tt kt => XS.dconst0 X7.here hx rfl (hb hby d4_20) rfl kt) ?_
  show Ends p e below _ (T7.setTop (mkF m 21 #[.val (.ref o), .val (.ref am), .val (.double (4608083138725491507 : UInt64)), .second, .val (.double (4604930618986332160 : UInt64)), .second, .val (.ref an), .val (.ref ai), .val (.double k3), .second, .val (.double FP.dconst0), .second] [(.double FP.dconst0), (.double (4604930618986332160 : UInt64))]))
  refine Ends.pre (fun tt kt => XS.dcmpS X7.here hx rfl (v := (1 : Int32)) (hb hby d4_21) rfl (by decide +kernel) kt) ?_
  show Ends p e below _ (T7.setTop (mkF m 22 #[.val (.ref o), .val (.ref am), .val (.double (4608083138725491507 : UInt64)), .second, .val (.double (4604930618986332160 : UInt64)), .second, .val (.ref an), .val (.ref ai), .val (.double k3), .second, .val (.double FP.dconst0), .second] [(.int (1 : Int32))]))
  refine Ends.pre (fun tt kt => XS.ifNo X7.here hx rfl (hb hby d4_22) rfl ((if0 _ _).trans (flt (by decide)).1) kt) ?_
  show Ends p e below _ (T7.setTop (mkF m 25 #[.val (.ref o), .val (.ref am), .val (.double (4608083138725491507 : UInt64)), .second, .val (.double (4604930618986332160 : UInt64)), .second, .val (.ref an), .val (.ref ai), .val (.double k3), .second, .val (.double FP.dconst0), .second] []))
  refine Ends.pre (fun tt kt => XS.dload X7.here hx rfl (hb hby d4_25) rfl kt) ?_
  show Ends p e below _ (T7.setTop (mkF m 27 #[.val (.ref o), .val (.ref am), .val (.double (4608083138725491507 : UInt64)), .second, .val (.double (4604930618986332160 : UInt64)), .second, .val (.ref an), .val (.ref ai), .val (.double k3), .second, .val (.double FP.dconst0), .second] [(.double (4604930618986332160 : UInt64))]))
  refine Ends.pre (fun tt kt => XS.dconst1 X7.here hx rfl (hb hby d4_27) rfl kt) ?_
  show Ends p e below _ (T7.setTop (mkF m 28 #[.val (.ref o), .val (.ref am), .val (.double (4608083138725491507 : UInt64)), .second, .val (.double (4604930618986332160 : UInt64)), .second, .val (.ref an), .val (.ref ai), .val (.double k3), .second, .val (.double FP.dconst0), .second] [(.double FP.dconst1), (.double (4604930618986332160 : UInt64))]))
  refine Ends.pre (fun tt kt => XS.dcmpS X7.here hx rfl (v := (-1 : Int32)) (hb hby d4_28) rfl (by decide +kernel) kt) ?_
  show Ends p e below _ (T7.setTop (mkF m 29 #[.val (.ref o), .val (.ref am), .val (.double (4608083138725491507 : UInt64)), .second, .val (.double (4604930618986332160 : UInt64)), .second, .val (.ref an), .val (.ref ai), .val (.double k3), .second, .val (.double FP.dconst0), .second] [(.int (-1 : Int32))]))
  refine Ends.pre (fun tt kt => XS.ifNo X7.here hx rfl (hb hby d4_29) rfl ((if0 _ _).trans (flt (by decide)).2.2.1) kt) ?_
  show Ends p e below _ (T7.setTop (mkF m 32 #[.val (.ref o), .val (.ref am), .val (.double (4608083138725491507 : UInt64)), .second, .val (.double (4604930618986332160 : UInt64)), .second, .val (.ref an), .val (.ref ai), .val (.double k3), .second, .val (.double FP.dconst0), .second] []))
  refine Ends.pre (fun tt kt => XS.dload X7.here hx rfl (hb hby d4_32) rfl kt) ?_
  show Ends p e below _ (T7.setTop (mkF m 34 #[.val (.ref o), .val (.ref am), .val (.double (4608083138725491507 : UInt64)), .second, .val (.double (4604930618986332160 : UInt64)), .second, .val (.ref an), .val (.ref ai), .val (.double k3), .second, .val (.double FP.dconst0), .second] [(.double k3)]))
  refine Ends.pre (fun tt kt => XS.dconst0 X7.here hx rfl (hb hby d4_34) rfl kt) ?_
  show Ends p e below _ (T7.setTop (mkF m 35 #[.val (.ref o), .val (.ref am), .val (.double (4608083138725491507 : UInt64)), .second, .val (.double (4604930618986332160 : UInt64)), .second, .val (.ref an), .val (.ref ai), .val (.double k3), .second, .val (.double FP.dconst0), .second] [(.double FP.dconst0), (.double k3)]))
  refine Ends.pre (fun tt kt => XS.dcmpS X7.here hx rfl (v := (cmpValue (FP.dcmp k3 FP.dconst0) .l)) (hb hby d4_35) rfl rfl kt) ?_
  show Ends p e below _ (T7.setTop (mkF m 36 #[.val (.ref o), .val (.ref am), .val (.double (4608083138725491507 : UInt64)), .second, .val (.double (4604930618986332160 : UInt64)), .second, .val (.ref an), .val (.ref ai), .val (.double k3), .second, .val (.double FP.dconst0), .second] [(.int (cmpValue (FP.dcmp k3 FP.dconst0) .l))]))
  refine Ends.pre (fun tt kt => XS.ifYes X7.here hx rfl (pc0 := 36) (pc' := 57) rfl (hb hby d4_36) rfl ((if0 _ _).trans (flt hk3).2.1) (by decide) (by decide) kt) ?_
  show Ends p e below _ (T7.setTop (mkF m 57 #[.val (.ref o), .val (.ref am), .val (.double (4608083138725491507 : UInt64)), .second, .val (.double (4604930618986332160 : UInt64)), .second, .val (.ref an), .val (.ref ai), .val (.double k3), .second, .val (.double FP.dconst0), .second] []))
  refine Ends.pre (fun tt kt => XS.dload X7.here hx rfl (hb hby d4_57) rfl kt) ?_
  show Ends p e below _ (T7.setTop (mkF m 59 #[.val (.ref o), .val (.ref am), .val (.double (4608083138725491507 : UInt64)), .second, .val (.double (4604930618986332160 : UInt64)), .second, .val (.ref an), .val (.ref ai), .val (.double k3), .second, .val (.double FP.dconst0), .second] [(.double FP.dconst0)]))
  refine Ends.pre (fun tt kt => XS.dconst0 X7.here hx rfl (hb hby d4_59) rfl kt) ?_
  show Ends p e below _ (T7.setTop (mkF m 60 #[.val (.ref o), .val (.ref am), .val (.double (4608083138725491507 : UInt64)), .second, .val (.double (4604930618986332160 : UInt64)), .second, .val (.ref an), .val (.ref ai), .val (.double k3), .second, .val (.double FP.dconst0), .second] [(.double FP.dconst0), (.double FP.dconst0)]))
  refine Ends.pre (fun tt kt => XS.dcmpS X7.here hx rfl (v := (0 : Int32)) (hb hby d4_60) rfl (by decide +kernel) kt) ?_
  show Ends p e below _ (T7.setTop (mkF m 61 #[.val (.ref o), .val (.ref am), .val (.double (4608083138725491507 : UInt64)), .second, .val (.double (4604930618986332160 : UInt64)), .second, .val (.ref an), .val (.ref ai), .val (.double k3), .second, .val (.double FP.dconst0), .second] [(.int (0 : Int32))]))
  refine Ends.pre (fun tt kt => XS.ifNo X7.here hx rfl (hb hby d4_61) rfl ((if0 _ _).trans (flt (by decide)).1) kt) ?_
  show Ends p e below _ (T7.setTop (mkF m 64 #[.val (.ref o), .val (.ref am), .val (.double (4608083138725491507 : UInt64)), .second, .val (.double (4604930618986332160 : UInt64)), .second, .val (.ref an), .val (.ref ai), .val (.double k3), .second, .val (.double FP.dconst0), .second] []))
  refine Ends.pre (fun tt kt => XS.dload X7.here hx rfl (hb hby d4_64) rfl kt) ?_
  show Ends p e below _ (T7.setTop (mkF m 66 #[.val (.ref o), .val (.ref am), .val (.double (4608083138725491507 : UInt64)), .second, .val (.double (4604930618986332160 : UInt64)), .second, .val (.ref an), .val (.ref ai), .val (.double k3), .second, .val (.double FP.dconst0), .second] [(.double FP.dconst0)]))
  refine Ends.pre (fun tt kt => X7.ldc2DoubleC hx hown (mvT hZ (hw _ (List.mem_of_getElem? (i := 33) rfl))) (g := (mkF m 66 #[.val (.ref o), .val (.ref am), .val (.double (4608083138725491507 : UInt64)), .second, .val (.double (4604930618986332160 : UInt64)), .second, .val (.ref an), .val (.ref ai), .val (.double k3), .second, .val (.double FP.dconst0), .second] [(.double FP.dconst0)])) rfl (hb hby d4_66) _ kt) ?_
  show Ends p e below _ (T7.setTop (mkF m 69 #[.val (.ref o), .val (.ref am), .val (.double (4608083138725491507 : UInt64)), .second, .val (.double (4604930618986332160 : UInt64)), .second, .val (.ref an), .val (.ref ai), .val (.double k3), .second, .val (.double FP.dconst0), .second] [(.double (4696837146684686336 : UInt64)), (.double FP.dconst0)]))
  refine Ends.pre (fun tt kt => XS.dcmpS X7.here hx rfl (v := (-1 : Int32)) (hb hby d4_69) rfl (by decide +kernel) kt) ?_
  show Ends p e below _ (T7.setTop (mkF m 70 #[.val (.ref o), .val (.ref am), .val (.double (4608083138725491507 : UInt64)), .second, .val (.double (4604930618986332160 : UInt64)), .second, .val (.ref an), .val (.ref ai), .val (.double k3), .second, .val (.double FP.dconst0), .second] [(.int (-1 : Int32))]))
  refine Ends.pre (fun tt kt => XS.ifNo X7.here hx rfl (hb hby d4_70) rfl ((if0 _ _).trans (flt (by decide)).2.2.1) kt) ?_
  show Ends p e below _ (T7.setTop (mkF m 73 #[.val (.ref o), .val (.ref am), .val (.double (4608083138725491507 : UInt64)), .second, .val (.double (4604930618986332160 : UInt64)), .second, .val (.ref an), .val (.ref ai), .val (.double k3), .second, .val (.double FP.dconst0), .second] []))
  refine Ends.pre (fun tt kt => XS.aloadN X7.here hx rfl (hb hby d4_73) rfl rfl kt) ?_
  show Ends p e below _ (T7.setTop (mkF m 74 #[.val (.ref o), .val (.ref am), .val (.double (4608083138725491507 : UInt64)), .second, .val (.double (4604930618986332160 : UInt64)), .second, .val (.ref an), .val (.ref ai), .val (.double k3), .second, .val (.double FP.dconst0), .second] [(.ref am)]))
  obtain ⟨cq8, kq8, q8a, q8b, q8c⟩ := isOf hZ e7 E_am
  obtain ⟨_, _, ⟨T8, L8, k8, n8⟩, -, X8, ⟨Lc8, hQ8, l8, y8, z8⟩, st8⟩ := X7.virtualBack hx (y := (⟨"com/example/bare_ranker/bareranker/search/Model", "takesDelta", "()Z"⟩ : MethodName)) (z := (⟨"com/example/bare_ranker/bareranker/search/Model", "takesDelta", "()Z"⟩ : MethodName)) hown (mvT hZ (hw _ (List.mem_of_getElem? (i := 34) rfl))) (mvT hZ (hw _ (List.mem_of_getElem? (i := 35) rfl))) (notFace_of_selects (args := #[]) (mvT hZ (hw _ (List.mem_of_getElem? (i := 37) rfl)))) (mvT hZ (hw _ (List.mem_of_getElem? (i := 37) rfl))) (mvT hZ (hw _ (List.mem_of_getElem? (i := 36) rfl))) (by decide) (backOf (W := 0) (rm6 l Z a0 hw [] am aL aP h0 n0 Z0 SL SP n1 n2) hZ (hw _ (List.mem_of_getElem? (i := 38) rfl)) (hw _ (List.mem_of_getElem? (i := 22) rfl)) (by decide) (by decide)) q8a q8c (g := (mkF m 74 #[.val (.ref o), .val (.ref am), .val (.double (4608083138725491507 : UInt64)), .second, .val (.double (4604930618986332160 : UInt64)), .second, .val (.ref an), .val (.ref ai), .val (.double k3), .second, .val (.double FP.dconst0), .second] [(.ref am)])) rfl (by rw [hml]; rfl) (Steps.refl _) (argsL := []) (rest := []) (lenOf pd4_0 rfl) rfl (by show 2 * 0 + _ ≤ _; exact Nat.le_of_eq rfl) (hb hby d4_74) (fun _ _ => ⟨rfl, e7, (show (0 : Nat) + (0 : Nat) ≤ _ from by decide), (show (0 : Nat) + (0 : Nat) ≤ _ from by decide)⟩)
  dsimp only [Pt.U, Pt.locs, Pt.cells, Pt.slots] at X8 l8 y8 z8 st8 hQ8
  subst l8 y8 z8
  obtain ⟨rfl, N8q, e8⟩ := hQ8
  have N8 := Fr.app N0 N8q
  refine Ends.pre (fun tt kt => st8.trans kt) ?_
  show Ends p e below _ (T8.setTop (mkF m 77 #[.val (.ref o), .val (.ref am), .val (.double (4608083138725491507 : UInt64)), .second, .val (.double (4604930618986332160 : UInt64)), .second, .val (.ref an), .val (.ref ai), .val (.double k3), .second, .val (.double FP.dconst0), .second] [(.int (0 : Int32))]))
  refine Ends.pre (fun tt kt => XS.ifNo X8.here hx rfl (hb hby d4_77) rfl ((if0 _ _).trans (teq (by decide)).2) kt) ?_
  show Ends p e below _ (T8.setTop (mkF m 80 #[.val (.ref o), .val (.ref am), .val (.double (4608083138725491507 : UInt64)), .second, .val (.double (4604930618986332160 : UInt64)), .second, .val (.ref an), .val (.ref ai), .val (.double k3), .second, .val (.double FP.dconst0), .second] []))
  refine Ends.pre (fun tt kt => XS.dload X8.here hx rfl (hb hby d4_80) rfl kt) ?_
  show Ends p e below _ (T8.setTop (mkF m 82 #[.val (.ref o), .val (.ref am), .val (.double (4608083138725491507 : UInt64)), .second, .val (.double (4604930618986332160 : UInt64)), .second, .val (.ref an), .val (.ref ai), .val (.double k3), .second, .val (.double FP.dconst0), .second] [(.double FP.dconst0)]))
  refine Ends.pre (fun tt kt => XS.dconst0 X8.here hx rfl (hb hby d4_82) rfl kt) ?_
  show Ends p e below _ (T8.setTop (mkF m 83 #[.val (.ref o), .val (.ref am), .val (.double (4608083138725491507 : UInt64)), .second, .val (.double (4604930618986332160 : UInt64)), .second, .val (.ref an), .val (.ref ai), .val (.double k3), .second, .val (.double FP.dconst0), .second] [(.double FP.dconst0), (.double FP.dconst0)]))
  refine Ends.pre (fun tt kt => XS.dcmpS X8.here hx rfl (v := (0 : Int32)) (hb hby d4_83) rfl (by decide +kernel) kt) ?_
  show Ends p e below _ (T8.setTop (mkF m 84 #[.val (.ref o), .val (.ref am), .val (.double (4608083138725491507 : UInt64)), .second, .val (.double (4604930618986332160 : UInt64)), .second, .val (.ref an), .val (.ref ai), .val (.double k3), .second, .val (.double FP.dconst0), .second] [(.int (0 : Int32))]))
  refine Ends.pre (fun tt kt => XS.ifYes X8.here hx rfl (pc0 := 84) (pc' := 106) rfl (hb hby d4_84) rfl ((if0 _ _).trans (teq (by decide)).1) (by decide) (by decide) kt) ?_
  show Ends p e below _ (T8.setTop (mkF m 106 #[.val (.ref o), .val (.ref am), .val (.double (4608083138725491507 : UInt64)), .second, .val (.double (4604930618986332160 : UInt64)), .second, .val (.ref an), .val (.ref ai), .val (.double k3), .second, .val (.double FP.dconst0), .second] []))
  refine Ends.pre (fun tt kt => XS.aloadN X8.here hx rfl (hb hby d4_106) rfl rfl kt) ?_
  show Ends p e below _ (T8.setTop (mkF m 107 #[.val (.ref o), .val (.ref am), .val (.double (4608083138725491507 : UInt64)), .second, .val (.double (4604930618986332160 : UInt64)), .second, .val (.ref an), .val (.ref ai), .val (.double k3), .second, .val (.double FP.dconst0), .second] [(.ref am)]))
  obtain ⟨cq9, kq9, q9a, q9b, q9c⟩ := isOf hZ e8 E_am
  obtain ⟨_, _, ⟨T9, L9, k9, n9⟩, -, X9, ⟨Lc9, hQ9, l9, y9, z9⟩, st9⟩ := X8.virtualBack hx (y := (⟨"com/example/bare_ranker/bareranker/search/Model", "fitsK1", "()Z"⟩ : MethodName)) (z := (⟨"com/example/bare_ranker/bareranker/search/Model", "fitsK1", "()Z"⟩ : MethodName)) hown (mvT hZ (hw _ (List.mem_of_getElem? (i := 43) rfl))) (mvT hZ (hw _ (List.mem_of_getElem? (i := 44) rfl))) (notFace_of_selects (args := #[]) (mvT hZ (hw _ (List.mem_of_getElem? (i := 46) rfl)))) (mvT hZ (hw _ (List.mem_of_getElem? (i := 46) rfl))) (mvT hZ (hw _ (List.mem_of_getElem? (i := 45) rfl))) (by decide) (backOf (W := 0) (rm7 l Z a0 hw [] am aA h0 n0 Z0 SA n3) hZ (hw _ (List.mem_of_getElem? (i := 47) rfl)) (hw _ (List.mem_of_getElem? (i := 22) rfl)) (by decide) (by decide)) q9a q9c (g := (mkF m 107 #[.val (.ref o), .val (.ref am), .val (.double (4608083138725491507 : UInt64)), .second, .val (.double (4604930618986332160 : UInt64)), .second, .val (.ref an), .val (.ref ai), .val (.double k3), .second, .val (.double FP.dconst0), .second] [(.ref am)])) rfl (by rw [hml]; rfl) (Steps.refl _) (argsL := []) (rest := []) (lenOf pd4_0 rfl) rfl (by show 2 * 0 + _ ≤ _; exact Nat.le_of_eq rfl) (hb hby d4_107) (fun _ _ => ⟨rfl, e8, (show (0 : Nat) + (0 : Nat) ≤ _ from by decide), (show (0 : Nat) + (0 : Nat) ≤ _ from by decide)⟩)
  dsimp only [Pt.U, Pt.locs, Pt.cells, Pt.slots] at X9 l9 y9 z9 st9 hQ9
  subst l9 y9 z9
  obtain ⟨rfl, N9q, e9⟩ := hQ9
  have N9 := Fr.app N8 N9q
  refine Ends.pre (fun tt kt => st9.trans kt) ?_
  show Ends p e below _ (T9.setTop (mkF m 110 #[.val (.ref o), .val (.ref am), .val (.double (4608083138725491507 : UInt64)), .second, .val (.double (4604930618986332160 : UInt64)), .second, .val (.ref an), .val (.ref ai), .val (.double k3), .second, .val (.double FP.dconst0), .second] [(.int (0 : Int32))]))
  refine Ends.pre (fun tt kt => XS.ifYes X9.here hx rfl (pc0 := 110) (pc' := 152) rfl (hb hby d4_110) rfl ((if0 _ _).trans (teq (by decide)).1) (by decide) (by decide) kt) ?_
  show Ends p e below _ (T9.setTop (mkF m 152 #[.val (.ref o), .val (.ref am), .val (.double (4608083138725491507 : UInt64)), .second, .val (.double (4604930618986332160 : UInt64)), .second, .val (.ref an), .val (.ref ai), .val (.double k3), .second, .val (.double FP.dconst0), .second] []))
  refine Ends.pre (fun tt kt => XS.aload X9.here hx rfl (hb hby d4_152) rfl rfl kt) ?_
  show Ends p e below _ (T9.setTop (mkF m 154 #[.val (.ref o), .val (.ref am), .val (.double (4608083138725491507 : UInt64)), .second, .val (.double (4604930618986332160 : UInt64)), .second, .val (.ref an), .val (.ref ai), .val (.double k3), .second, .val (.double FP.dconst0), .second] [(.ref an)]))
  obtain ⟨cq10, kq10, q10a, q10b, q10c⟩ := isOf hZ e9 E_an
  obtain ⟨_, _, ⟨T10, L10, k10, n10⟩, -, X10, ⟨Lc10, hQ10, l10, y10, z10⟩, st10⟩ := X9.virtualBack hx (y := (⟨"com/example/bare_ranker/bareranker/search/LengthNorm", "takesB", "()Z"⟩ : MethodName)) (z := (⟨"com/example/bare_ranker/bareranker/search/LengthNorm", "takesB", "()Z"⟩ : MethodName)) hown (mvT hZ (hw _ (List.mem_of_getElem? (i := 50) rfl))) (mvT hZ (hw _ (List.mem_of_getElem? (i := 51) rfl))) (notFace_of_selects (args := #[]) (mvT hZ (hw _ (List.mem_of_getElem? (i := 53) rfl)))) (mvT hZ (hw _ (List.mem_of_getElem? (i := 53) rfl))) (mvT hZ (hw _ (List.mem_of_getElem? (i := 52) rfl))) (by decide) (backOf (W := 0) (rm8 l Z a0 hw [] an h0 n0 Z0 SV) hZ (hw _ (List.mem_of_getElem? (i := 54) rfl)) (hw _ (List.mem_of_getElem? (i := 25) rfl)) (by decide) (by decide)) q10a q10c (g := (mkF m 154 #[.val (.ref o), .val (.ref am), .val (.double (4608083138725491507 : UInt64)), .second, .val (.double (4604930618986332160 : UInt64)), .second, .val (.ref an), .val (.ref ai), .val (.double k3), .second, .val (.double FP.dconst0), .second] [(.ref an)])) rfl (by rw [hml]; rfl) (Steps.refl _) (argsL := []) (rest := []) (lenOf pd4_0 rfl) rfl (by show 2 * 0 + _ ≤ _; exact Nat.le_of_eq rfl) (hb hby d4_154) (fun _ _ => ⟨rfl, e9, (show (0 : Nat) + (0 : Nat) ≤ _ from by decide), (show (0 : Nat) + (0 : Nat) ≤ _ from by decide)⟩)
  dsimp only [Pt.U, Pt.locs, Pt.cells, Pt.slots] at X10 l10 y10 z10 st10 hQ10
  subst l10 y10 z10
  obtain ⟨rfl, N10q, e10⟩ := hQ10
  have N10 := Fr.app N9 N10q
  refine Ends.pre (fun tt kt => st10.trans kt) ?_
  show Ends p e below _ (T10.setTop (mkF m 157 #[.val (.ref o), .val (.ref am), .val (.double (4608083138725491507 : UInt64)), .second, .val (.double (4604930618986332160 : UInt64)), .second, .val (.ref an), .val (.ref ai), .val (.double k3), .second, .val (.double FP.dconst0), .second] [(.int (1 : Int32))]))
  refine Ends.pre (fun tt kt => XS.ifYes X10.here hx rfl (pc0 := 157) (pc' := 189) rfl (hb hby d4_157) rfl ((if0 _ _).trans (feq (by decide)).2) (by decide) (by decide) kt) ?_
  show Ends p e below _ (T10.setTop (mkF m 189 #[.val (.ref o), .val (.ref am), .val (.double (4608083138725491507 : UInt64)), .second, .val (.double (4604930618986332160 : UInt64)), .second, .val (.ref an), .val (.ref ai), .val (.double k3), .second, .val (.double FP.dconst0), .second] []))
  refine Ends.pre (fun tt kt => XS.aloadN X10.here hx rfl (hb hby d4_189) rfl rfl kt) ?_
  show Ends p e below _ (T10.setTop (mkF m 190 #[.val (.ref o), .val (.ref am), .val (.double (4608083138725491507 : UInt64)), .second, .val (.double (4604930618986332160 : UInt64)), .second, .val (.ref an), .val (.ref ai), .val (.double k3), .second, .val (.double FP.dconst0), .second] [(.ref am)]))
  obtain ⟨cq11, kq11, q11a, q11b, q11c⟩ := isOf hZ e10 E_am
  obtain ⟨_, _, ⟨T11, L11, k11, n11⟩, -, X11, ⟨Lc11, hQ11, l11, y11, z11⟩, st11⟩ := X10.virtualBack hx (y := (⟨"com/example/bare_ranker/bareranker/search/Model", "weighsFields", "()Z"⟩ : MethodName)) (z := (⟨"com/example/bare_ranker/bareranker/search/Model", "weighsFields", "()Z"⟩ : MethodName)) hown (mvT hZ (hw _ (List.mem_of_getElem? (i := 56) rfl))) (mvT hZ (hw _ (List.mem_of_getElem? (i := 57) rfl))) (notFace_of_selects (args := #[]) (mvT hZ (hw _ (List.mem_of_getElem? (i := 59) rfl)))) (mvT hZ (hw _ (List.mem_of_getElem? (i := 59) rfl))) (mvT hZ (hw _ (List.mem_of_getElem? (i := 58) rfl))) (by decide) (backOf (W := 0) (rm9 l Z a0 hw [] am aF h0 n0 Z0 SF n4) hZ (hw _ (List.mem_of_getElem? (i := 60) rfl)) (hw _ (List.mem_of_getElem? (i := 22) rfl)) (by decide) (by decide)) q11a q11c (g := (mkF m 190 #[.val (.ref o), .val (.ref am), .val (.double (4608083138725491507 : UInt64)), .second, .val (.double (4604930618986332160 : UInt64)), .second, .val (.ref an), .val (.ref ai), .val (.double k3), .second, .val (.double FP.dconst0), .second] [(.ref am)])) rfl (by rw [hml]; rfl) (Steps.refl _) (argsL := []) (rest := []) (lenOf pd4_0 rfl) rfl (by show 2 * 0 + _ ≤ _; exact Nat.le_of_eq rfl) (hb hby d4_190) (fun _ _ => ⟨rfl, e10, (show (0 : Nat) + (0 : Nat) ≤ _ from by decide), (show (0 : Nat) + (0 : Nat) ≤ _ from by decide)⟩)
  dsimp only [Pt.U, Pt.locs, Pt.cells, Pt.slots] at X11 l11 y11 z11 st11 hQ11
  subst l11 y11 z11
  obtain ⟨rfl, N11q, e11⟩ := hQ11
  have N11 := Fr.app N10 N11q
  refine Ends.pre (fun tt kt => st11.trans kt) ?_
  show Ends p e below _ (T11.setTop (mkF m 193 #[.val (.ref o), .val (.ref am), .val (.double (4608083138725491507 : UInt64)), .second, .val (.double (4604930618986332160 : UInt64)), .second, .val (.ref an), .val (.ref ai), .val (.double k3), .second, .val (.double FP.dconst0), .second] [(.int (0 : Int32))]))
  refine Ends.pre (fun tt kt => XS.ifYes X11.here hx rfl (pc0 := 193) (pc' := 224) rfl (hb hby d4_193) rfl ((if0 _ _).trans (teq (by decide)).1) (by decide) (by decide) kt) ?_
  show Ends p e below _ (T11.setTop (mkF m 224 #[.val (.ref o), .val (.ref am), .val (.double (4608083138725491507 : UInt64)), .second, .val (.double (4604930618986332160 : UInt64)), .second, .val (.ref an), .val (.ref ai), .val (.double k3), .second, .val (.double FP.dconst0), .second] []))
  refine Ends.pre (fun tt kt => XS.aloadN X11.here hx rfl (hb hby d4_224) rfl rfl kt) ?_
  show Ends p e below _ (T11.setTop (mkF m 225 #[.val (.ref o), .val (.ref am), .val (.double (4608083138725491507 : UInt64)), .second, .val (.double (4604930618986332160 : UInt64)), .second, .val (.ref an), .val (.ref ai), .val (.double k3), .second, .val (.double FP.dconst0), .second] [(.ref am)]))
  refine Ends.pre (fun tt kt => XS.aload X11.here hx rfl (hb hby d4_225) rfl rfl kt) ?_
  show Ends p e below _ (T11.setTop (mkF m 227 #[.val (.ref o), .val (.ref am), .val (.double (4608083138725491507 : UInt64)), .second, .val (.double (4604930618986332160 : UInt64)), .second, .val (.ref an), .val (.ref ai), .val (.double k3), .second, .val (.double FP.dconst0), .second] [(.ref an), (.ref am)]))
  obtain ⟨cq12, kq12, q12a, q12b, q12c⟩ := isOf hZ e11 E_am
  obtain ⟨_, _, ⟨T12, L12, k12, n12⟩, -, X12, ⟨Lc12, hQ12, l12, y12, z12⟩, st12⟩ := X11.virtualBack hx (y := (⟨"com/example/bare_ranker/bareranker/search/Model", "takesNorm", "(Lcom/example/bare_ranker/bareranker/search/LengthNorm;)Z"⟩ : MethodName)) (z := (⟨"com/example/bare_ranker/bareranker/search/Model", "takesNorm", "(Lcom/example/bare_ranker/bareranker/search/LengthNorm;)Z"⟩ : MethodName)) hown (mvT hZ (hw _ (List.mem_of_getElem? (i := 63) rfl))) (mvT hZ (hw _ (List.mem_of_getElem? (i := 64) rfl))) (notFace_of_selects (args := #[]) (mvT hZ (hw _ (List.mem_of_getElem? (i := 66) rfl)))) (mvT hZ (hw _ (List.mem_of_getElem? (i := 66) rfl))) (mvT hZ (hw _ (List.mem_of_getElem? (i := 65) rfl))) (by decide) (backOf (W := 0) (rm10 l Z a0 hw [] am an h0 n0 Z0 SV) hZ (hw _ (List.mem_of_getElem? (i := 67) rfl)) (hw _ (List.mem_of_getElem? (i := 22) rfl)) (by decide) (by decide)) q12a q12c (g := (mkF m 227 #[.val (.ref o), .val (.ref am), .val (.double (4608083138725491507 : UInt64)), .second, .val (.double (4604930618986332160 : UInt64)), .second, .val (.ref an), .val (.ref ai), .val (.double k3), .second, .val (.double FP.dconst0), .second] [(.ref an), (.ref am)])) rfl (by rw [hml]; rfl) (Steps.refl _) (argsL := [(.ref an)]) (rest := []) (lenOf pd4_1 rfl) rfl (by show 2 * 0 + _ ≤ _; exact Nat.le_of_eq rfl) (hb hby d4_227) (fun _ _ => ⟨rfl, e11, (show (0 : Nat) + (0 : Nat) ≤ _ from by decide), (show (0 : Nat) + (0 : Nat) ≤ _ from by decide)⟩)
  dsimp only [Pt.U, Pt.locs, Pt.cells, Pt.slots] at X12 l12 y12 z12 st12 hQ12
  subst l12 y12 z12
  obtain ⟨rfl, N12q, e12⟩ := hQ12
  have N12 := Fr.app N11 N12q
  refine Ends.pre (fun tt kt => st12.trans kt) ?_
  show Ends p e below _ (T12.setTop (mkF m 230 #[.val (.ref o), .val (.ref am), .val (.double (4608083138725491507 : UInt64)), .second, .val (.double (4604930618986332160 : UInt64)), .second, .val (.ref an), .val (.ref ai), .val (.double k3), .second, .val (.double FP.dconst0), .second] [(.int (1 : Int32))]))
  refine Ends.pre (fun tt kt => XS.ifYes X12.here hx rfl (pc0 := 230) (pc' := 255) rfl (hb hby d4_230) rfl ((if0 _ _).trans (feq (by decide)).2) (by decide) (by decide) kt) ?_
  show Ends p e below _ (T12.setTop (mkF m 255 #[.val (.ref o), .val (.ref am), .val (.double (4608083138725491507 : UInt64)), .second, .val (.double (4604930618986332160 : UInt64)), .second, .val (.ref an), .val (.ref ai), .val (.double k3), .second, .val (.double FP.dconst0), .second] []))
  refine Ends.pre (fun tt kt => XS.aloadN X12.here hx rfl (hb hby d4_255) rfl rfl kt) ?_
  show Ends p e below _ (T12.setTop (mkF m 256 #[.val (.ref o), .val (.ref am), .val (.double (4608083138725491507 : UInt64)), .second, .val (.double (4604930618986332160 : UInt64)), .second, .val (.ref an), .val (.ref ai), .val (.double k3), .second, .val (.double FP.dconst0), .second] [(.ref o)]))
  refine Ends.pre (fun tt kt => XS.aloadN X12.here hx rfl (hb hby d4_256) rfl rfl kt) ?_
  show Ends p e below _ (T12.setTop (mkF m 257 #[.val (.ref o), .val (.ref am), .val (.double (4608083138725491507 : UInt64)), .second, .val (.double (4604930618986332160 : UInt64)), .second, .val (.ref an), .val (.ref ai), .val (.double k3), .second, .val (.double FP.dconst0), .second] [(.ref am), (.ref o)]))
  obtain ⟨T13, h13, X13, e13, W13, st13⟩ := putF X12 hx hZ hown (host := "") (Or.inl (hw _ (List.mem_of_getElem? (i := 69) rfl))) Via.refl e12 F_model_o E_o (Or.inr ⟨(hw _ (List.mem_of_getElem? (i := 70) rfl)), rfl, hnm⟩) (hw _ (List.mem_of_getElem? (i := 11) rfl)) (ty := (.object "com/example/bare_ranker/bareranker/search/Model")) (by decide) rfl rfl (g := (mkF m 257 #[.val (.ref o), .val (.ref am), .val (.double (4608083138725491507 : UInt64)), .second, .val (.double (4604930618986332160 : UInt64)), .second, .val (.ref an), .val (.ref ai), .val (.double k3), .second, .val (.double FP.dconst0), .second] [(.ref am), (.ref o)])) rfl rfl (hb hby d4_257)
  have F_k1_o := F_k1_o.other W13 (Or.inr (slot_ne (Or.inr (hw _ (List.mem_of_getElem? (i := 72) rfl))) (Or.inr (hw _ (List.mem_of_getElem? (i := 70) rfl))) (by decide) (t := .double) (t' := (.object "com/example/bare_ranker/bareranker/search/Model")) (by decide) (by decide)))
  have F_b_o := F_b_o.other W13 (Or.inr (slot_ne (Or.inr (hw _ (List.mem_of_getElem? (i := 74) rfl))) (Or.inr (hw _ (List.mem_of_getElem? (i := 70) rfl))) (by decide) (t := .double) (t' := (.object "com/example/bare_ranker/bareranker/search/Model")) (by decide) (by decide)))
  have F_norm_o := F_norm_o.other W13 (Or.inr (slot_ne (Or.inr (hw _ (List.mem_of_getElem? (i := 76) rfl))) (Or.inr (hw _ (List.mem_of_getElem? (i := 70) rfl))) (by decide) (t := (.object "com/example/bare_ranker/bareranker/search/LengthNorm")) (t' := (.object "com/example/bare_ranker/bareranker/search/Model")) (by decide) (by decide)))
  have F_idfForm_o := F_idfForm_o.other W13 (Or.inr (slot_ne (Or.inr (hw _ (List.mem_of_getElem? (i := 84) rfl))) (Or.inr (hw _ (List.mem_of_getElem? (i := 70) rfl))) (by decide) (t := (.object "com/example/bare_ranker/bareranker/search/Idf")) (t' := (.object "com/example/bare_ranker/bareranker/search/Model")) (by decide) (by decide)))
  have F_k3_o := F_k3_o.other W13 (Or.inr (slot_ne (Or.inr (hw _ (List.mem_of_getElem? (i := 86) rfl))) (Or.inr (hw _ (List.mem_of_getElem? (i := 70) rfl))) (by decide) (t := .double) (t' := (.object "com/example/bare_ranker/bareranker/search/Model")) (by decide) (by decide)))
  have F_delta_o := F_delta_o.other W13 (Or.inr (slot_ne (Or.inr (hw _ (List.mem_of_getElem? (i := 88) rfl))) (Or.inr (hw _ (List.mem_of_getElem? (i := 70) rfl))) (by decide) (t := .double) (t' := (.object "com/example/bare_ranker/bareranker/search/Model")) (by decide) (by decide)))
  have E_o := E_o.wr W13
  have E_ai := E_ai.wr W13
  have K0 := K0.wr W13 (Or.inl (List.mem_of_getElem? (i := 0) rfl))
  have Z0 := Nat.le_trans Z0 (Keep.of_wr W13).1
  have F_model_o := F_model_o.same W13
  have N13 := Fr.snoc X13 N12 g_o
  refine Ends.pre (fun tt kt => st13 _ kt) ?_
  show Ends p e below _ (T13.setTop (mkF m 260 #[.val (.ref o), .val (.ref am), .val (.double (4608083138725491507 : UInt64)), .second, .val (.double (4604930618986332160 : UInt64)), .second, .val (.ref an), .val (.ref ai), .val (.double k3), .second, .val (.double FP.dconst0), .second] []))
  refine Ends.pre (fun tt kt => XS.aloadN X13.here hx rfl (hb hby d4_260) rfl rfl kt) ?_
  show Ends p e below _ (T13.setTop (mkF m 261 #[.val (.ref o), .val (.ref am), .val (.double (4608083138725491507 : UInt64)), .second, .val (.double (4604930618986332160 : UInt64)), .second, .val (.ref an), .val (.ref ai), .val (.double k3), .second, .val (.double FP.dconst0), .second] [(.ref o)]))
  refine Ends.pre (fun tt kt => XS.dloadN X13.here hx rfl (hb hby d4_261) rfl kt) ?_
  show Ends p e below _ (T13.setTop (mkF m 262 #[.val (.ref o), .val (.ref am), .val (.double (4608083138725491507 : UInt64)), .second, .val (.double (4604930618986332160 : UInt64)), .second, .val (.ref an), .val (.ref ai), .val (.double k3), .second, .val (.double FP.dconst0), .second] [(.double (4608083138725491507 : UInt64)), (.ref o)]))
  obtain ⟨T14, h14, X14, e14, W14, st14⟩ := putF X13 hx hZ hown (host := "") (Or.inl (hw _ (List.mem_of_getElem? (i := 71) rfl))) Via.refl e13 F_k1_o E_o (Or.inr ⟨(hw _ (List.mem_of_getElem? (i := 72) rfl)), rfl, hnm⟩) (hw _ (List.mem_of_getElem? (i := 11) rfl)) (ty := .double) (by decide) rfl rfl (g := (mkF m 262 #[.val (.ref o), .val (.ref am), .val (.double (4608083138725491507 : UInt64)), .second, .val (.double (4604930618986332160 : UInt64)), .second, .val (.ref an), .val (.ref ai), .val (.double k3), .second, .val (.double FP.dconst0), .second] [(.double (4608083138725491507 : UInt64)), (.ref o)])) rfl rfl (hb hby d4_262)
  have F_b_o := F_b_o.other W14 (Or.inr (slot_ne (Or.inr (hw _ (List.mem_of_getElem? (i := 74) rfl))) (Or.inr (hw _ (List.mem_of_getElem? (i := 72) rfl))) (by decide) (t := .double) (t' := .double) (by decide) (by decide)))
  have F_norm_o := F_norm_o.other W14 (Or.inr (slot_ne (Or.inr (hw _ (List.mem_of_getElem? (i := 76) rfl))) (Or.inr (hw _ (List.mem_of_getElem? (i := 72) rfl))) (by decide) (t := (.object "com/example/bare_ranker/bareranker/search/LengthNorm")) (t' := .double) (by decide) (by decide)))
  have F_idfForm_o := F_idfForm_o.other W14 (Or.inr (slot_ne (Or.inr (hw _ (List.mem_of_getElem? (i := 84) rfl))) (Or.inr (hw _ (List.mem_of_getElem? (i := 72) rfl))) (by decide) (t := (.object "com/example/bare_ranker/bareranker/search/Idf")) (t' := .double) (by decide) (by decide)))
  have F_k3_o := F_k3_o.other W14 (Or.inr (slot_ne (Or.inr (hw _ (List.mem_of_getElem? (i := 86) rfl))) (Or.inr (hw _ (List.mem_of_getElem? (i := 72) rfl))) (by decide) (t := .double) (t' := .double) (by decide) (by decide)))
  have F_delta_o := F_delta_o.other W14 (Or.inr (slot_ne (Or.inr (hw _ (List.mem_of_getElem? (i := 88) rfl))) (Or.inr (hw _ (List.mem_of_getElem? (i := 72) rfl))) (by decide) (t := .double) (t' := .double) (by decide) (by decide)))
  have E_o := E_o.wr W14
  have E_ai := E_ai.wr W14
  have K0 := K0.wr W14 (Or.inl (List.mem_of_getElem? (i := 0) rfl))
  have Z0 := Nat.le_trans Z0 (Keep.of_wr W14).1
  have F_k1_o := F_k1_o.same W14
  have N14 := Fr.snoc X14 N13 g_o
  refine Ends.pre (fun tt kt => st14 _ kt) ?_
  show Ends p e below _ (T14.setTop (mkF m 265 #[.val (.ref o), .val (.ref am), .val (.double (4608083138725491507 : UInt64)), .second, .val (.double (4604930618986332160 : UInt64)), .second, .val (.ref an), .val (.ref ai), .val (.double k3), .second, .val (.double FP.dconst0), .second] []))
  refine Ends.pre (fun tt kt => XS.aloadN X14.here hx rfl (hb hby d4_265) rfl rfl kt) ?_
  show Ends p e below _ (T14.setTop (mkF m 266 #[.val (.ref o), .val (.ref am), .val (.double (4608083138725491507 : UInt64)), .second, .val (.double (4604930618986332160 : UInt64)), .second, .val (.ref an), .val (.ref ai), .val (.double k3), .second, .val (.double FP.dconst0), .second] [(.ref o)]))
  refine Ends.pre (fun tt kt => XS.dload X14.here hx rfl (hb hby d4_266) rfl kt) ?_
  show Ends p e below _ (T14.setTop (mkF m 268 #[.val (.ref o), .val (.ref am), .val (.double (4608083138725491507 : UInt64)), .second, .val (.double (4604930618986332160 : UInt64)), .second, .val (.ref an), .val (.ref ai), .val (.double k3), .second, .val (.double FP.dconst0), .second] [(.double (4604930618986332160 : UInt64)), (.ref o)]))
  obtain ⟨T15, h15, X15, e15, W15, st15⟩ := putF X14 hx hZ hown (host := "") (Or.inl (hw _ (List.mem_of_getElem? (i := 73) rfl))) Via.refl e14 F_b_o E_o (Or.inr ⟨(hw _ (List.mem_of_getElem? (i := 74) rfl)), rfl, hnm⟩) (hw _ (List.mem_of_getElem? (i := 11) rfl)) (ty := .double) (by decide) rfl rfl (g := (mkF m 268 #[.val (.ref o), .val (.ref am), .val (.double (4608083138725491507 : UInt64)), .second, .val (.double (4604930618986332160 : UInt64)), .second, .val (.ref an), .val (.ref ai), .val (.double k3), .second, .val (.double FP.dconst0), .second] [(.double (4604930618986332160 : UInt64)), (.ref o)])) rfl rfl (hb hby d4_268)
  have F_norm_o := F_norm_o.other W15 (Or.inr (slot_ne (Or.inr (hw _ (List.mem_of_getElem? (i := 76) rfl))) (Or.inr (hw _ (List.mem_of_getElem? (i := 74) rfl))) (by decide) (t := (.object "com/example/bare_ranker/bareranker/search/LengthNorm")) (t' := .double) (by decide) (by decide)))
  have F_idfForm_o := F_idfForm_o.other W15 (Or.inr (slot_ne (Or.inr (hw _ (List.mem_of_getElem? (i := 84) rfl))) (Or.inr (hw _ (List.mem_of_getElem? (i := 74) rfl))) (by decide) (t := (.object "com/example/bare_ranker/bareranker/search/Idf")) (t' := .double) (by decide) (by decide)))
  have F_k3_o := F_k3_o.other W15 (Or.inr (slot_ne (Or.inr (hw _ (List.mem_of_getElem? (i := 86) rfl))) (Or.inr (hw _ (List.mem_of_getElem? (i := 74) rfl))) (by decide) (t := .double) (t' := .double) (by decide) (by decide)))
  have F_delta_o := F_delta_o.other W15 (Or.inr (slot_ne (Or.inr (hw _ (List.mem_of_getElem? (i := 88) rfl))) (Or.inr (hw _ (List.mem_of_getElem? (i := 74) rfl))) (by decide) (t := .double) (t' := .double) (by decide) (by decide)))
  have E_o := E_o.wr W15
  have E_ai := E_ai.wr W15
  have K0 := K0.wr W15 (Or.inl (List.mem_of_getElem? (i := 0) rfl))
  have Z0 := Nat.le_trans Z0 (Keep.of_wr W15).1
  have F_b_o := F_b_o.same W15
  have N15 := Fr.snoc X15 N14 g_o
  refine Ends.pre (fun tt kt => st15 _ kt) ?_
  show Ends p e below _ (T15.setTop (mkF m 271 #[.val (.ref o), .val (.ref am), .val (.double (4608083138725491507 : UInt64)), .second, .val (.double (4604930618986332160 : UInt64)), .second, .val (.ref an), .val (.ref ai), .val (.double k3), .second, .val (.double FP.dconst0), .second] []))
  refine Ends.pre (fun tt kt => XS.aloadN X15.here hx rfl (hb hby d4_271) rfl rfl kt) ?_
  show Ends p e below _ (T15.setTop (mkF m 272 #[.val (.ref o), .val (.ref am), .val (.double (4608083138725491507 : UInt64)), .second, .val (.double (4604930618986332160 : UInt64)), .second, .val (.ref an), .val (.ref ai), .val (.double k3), .second, .val (.double FP.dconst0), .second] [(.ref o)]))
  refine Ends.pre (fun tt kt => XS.aload X15.here hx rfl (hb hby d4_272) rfl rfl kt) ?_
  show Ends p e below _ (T15.setTop (mkF m 274 #[.val (.ref o), .val (.ref am), .val (.double (4608083138725491507 : UInt64)), .second, .val (.double (4604930618986332160 : UInt64)), .second, .val (.ref an), .val (.ref ai), .val (.double k3), .second, .val (.double FP.dconst0), .second] [(.ref an), (.ref o)]))
  obtain ⟨T16, h16, X16, e16, W16, st16⟩ := putF X15 hx hZ hown (host := "") (Or.inl (hw _ (List.mem_of_getElem? (i := 75) rfl))) Via.refl e15 F_norm_o E_o (Or.inr ⟨(hw _ (List.mem_of_getElem? (i := 76) rfl)), rfl, hnm⟩) (hw _ (List.mem_of_getElem? (i := 11) rfl)) (ty := (.object "com/example/bare_ranker/bareranker/search/LengthNorm")) (by decide) rfl rfl (g := (mkF m 274 #[.val (.ref o), .val (.ref am), .val (.double (4608083138725491507 : UInt64)), .second, .val (.double (4604930618986332160 : UInt64)), .second, .val (.ref an), .val (.ref ai), .val (.double k3), .second, .val (.double FP.dconst0), .second] [(.ref an), (.ref o)])) rfl rfl (hb hby d4_274)
  have F_idfForm_o := F_idfForm_o.other W16 (Or.inr (slot_ne (Or.inr (hw _ (List.mem_of_getElem? (i := 84) rfl))) (Or.inr (hw _ (List.mem_of_getElem? (i := 76) rfl))) (by decide) (t := (.object "com/example/bare_ranker/bareranker/search/Idf")) (t' := (.object "com/example/bare_ranker/bareranker/search/LengthNorm")) (by decide) (by decide)))
  have F_k3_o := F_k3_o.other W16 (Or.inr (slot_ne (Or.inr (hw _ (List.mem_of_getElem? (i := 86) rfl))) (Or.inr (hw _ (List.mem_of_getElem? (i := 76) rfl))) (by decide) (t := .double) (t' := (.object "com/example/bare_ranker/bareranker/search/LengthNorm")) (by decide) (by decide)))
  have F_delta_o := F_delta_o.other W16 (Or.inr (slot_ne (Or.inr (hw _ (List.mem_of_getElem? (i := 88) rfl))) (Or.inr (hw _ (List.mem_of_getElem? (i := 76) rfl))) (by decide) (t := .double) (t' := (.object "com/example/bare_ranker/bareranker/search/LengthNorm")) (by decide) (by decide)))
  have E_o := E_o.wr W16
  have E_ai := E_ai.wr W16
  have K0 := K0.wr W16 (Or.inl (List.mem_of_getElem? (i := 0) rfl))
  have Z0 := Nat.le_trans Z0 (Keep.of_wr W16).1
  have F_norm_o := F_norm_o.same W16
  have N16 := Fr.snoc X16 N15 g_o
  refine Ends.pre (fun tt kt => st16 _ kt) ?_
  show Ends p e below _ (T16.setTop (mkF m 277 #[.val (.ref o), .val (.ref am), .val (.double (4608083138725491507 : UInt64)), .second, .val (.double (4604930618986332160 : UInt64)), .second, .val (.ref an), .val (.ref ai), .val (.double k3), .second, .val (.double FP.dconst0), .second] []))
  refine Ends.pre (fun tt kt => XS.aloadN X16.here hx rfl (hb hby d4_277) rfl rfl kt) ?_
  show Ends p e below _ (T16.setTop (mkF m 278 #[.val (.ref o), .val (.ref am), .val (.double (4608083138725491507 : UInt64)), .second, .val (.double (4604930618986332160 : UInt64)), .second, .val (.ref an), .val (.ref ai), .val (.double k3), .second, .val (.double FP.dconst0), .second] [(.ref o)]))
  refine Ends.pre (fun tt kt => XS.aload X16.here hx rfl (hb hby d4_278) rfl rfl kt) ?_
  show Ends p e below _ (T16.setTop (mkF m 280 #[.val (.ref o), .val (.ref am), .val (.double (4608083138725491507 : UInt64)), .second, .val (.double (4604930618986332160 : UInt64)), .second, .val (.ref an), .val (.ref ai), .val (.double k3), .second, .val (.double FP.dconst0), .second] [(.ref ai), (.ref o)]))
  obtain ⟨_, _, ⟨T17, L17, k17, n17⟩, -, X17, ⟨Lc17, hQ17, l17, y17, z17⟩, st17⟩ := Jvm.LawKit.callS X16 hx (y := (⟨"java/util/Objects", "requireNonNull", "(Ljava/lang/Object;)Ljava/lang/Object;"⟩ : MethodName)) hown (mvT hZ (hw _ (List.mem_of_getElem? (i := 77) rfl))) (mvT hZ (hw _ (List.mem_of_getElem? (i := 78) rfl))) (mvT hZ (hw _ (List.mem_of_getElem? (i := 79) rfl))) (mvT hZ (hw _ (List.mem_of_getElem? (i := 80) rfl))) (by decide) (backOf (W := 1) (rm11 l Z a0 hw [] ai h16 n0 Z0) hZ (hw _ (List.mem_of_getElem? (i := 80) rfl)) (hw _ (List.mem_of_getElem? (i := 79) rfl)) (by decide) (by decide)) (g := (mkF m 280 #[.val (.ref o), .val (.ref am), .val (.double (4608083138725491507 : UInt64)), .second, .val (.double (4604930618986332160 : UInt64)), .second, .val (.ref an), .val (.ref ai), .val (.double k3), .second, .val (.double FP.dconst0), .second] [(.ref ai), (.ref o)])) rfl (by rw [hml]; rfl) (argsL := [(.ref ai)]) (rest := [(.ref o)]) (lenOf pd4_2 rfl) rfl (by show 2 * 0 + _ ≤ _; exact Nat.le_of_eq rfl) (hb hby d4_280) (fun _ _ => ⟨rfl, e16, (show (0 : Nat) + (0 : Nat) ≤ _ from by decide), (show (0 : Nat) + (0 : Nat) ≤ _ from by decide)⟩)
  dsimp only [Pt.U, Pt.locs, Pt.cells, Pt.slots] at X17 l17 y17 z17 st17 hQ17
  subst l17 y17 z17
  obtain ⟨rfl, N17q, e17⟩ := hQ17
  have N17 := Fr.app N16 N17q
  refine Ends.pre (fun tt kt => st17 _ kt) ?_
  show Ends p e below _ (T17.setTop (mkF m 283 #[.val (.ref o), .val (.ref am), .val (.double (4608083138725491507 : UInt64)), .second, .val (.double (4604930618986332160 : UInt64)), .second, .val (.ref an), .val (.ref ai), .val (.double k3), .second, .val (.double FP.dconst0), .second] [(.ref ai), (.ref o)]))
  obtain ⟨T18, X18, e18, st18⟩ := castY X17 hx hZ hown (hw _ (List.mem_of_getElem? (i := 81) rfl)) e17 (Ins.self E_ai) (g := (mkF m 283 #[.val (.ref o), .val (.ref am), .val (.double (4608083138725491507 : UInt64)), .second, .val (.double (4604930618986332160 : UInt64)), .second, .val (.ref an), .val (.ref ai), .val (.double k3), .second, .val (.double FP.dconst0), .second] [(.ref ai), (.ref o)])) rfl rfl (hb hby d4_283)
  refine Ends.pre (fun tt kt => st18 _ kt) ?_
  show Ends p e below _ (T18.setTop (mkF m 286 #[.val (.ref o), .val (.ref am), .val (.double (4608083138725491507 : UInt64)), .second, .val (.double (4604930618986332160 : UInt64)), .second, .val (.ref an), .val (.ref ai), .val (.double k3), .second, .val (.double FP.dconst0), .second] [(.ref ai), (.ref o)]))
  obtain ⟨T19, h19, X19, e19, W19, st19⟩ := putF X18 hx hZ hown (host := "") (Or.inl (hw _ (List.mem_of_getElem? (i := 83) rfl))) Via.refl e18 F_idfForm_o E_o (Or.inr ⟨(hw _ (List.mem_of_getElem? (i := 84) rfl)), rfl, hnm⟩) (hw _ (List.mem_of_getElem? (i := 11) rfl)) (ty := (.object "com/example/bare_ranker/bareranker/search/Idf")) (by decide) rfl rfl (g := (mkF m 286 #[.val (.ref o), .val (.ref am), .val (.double (4608083138725491507 : UInt64)), .second, .val (.double (4604930618986332160 : UInt64)), .second, .val (.ref an), .val (.ref ai), .val (.double k3), .second, .val (.double FP.dconst0), .second] [(.ref ai), (.ref o)])) rfl rfl (hb hby d4_286)
  have F_k3_o := F_k3_o.other W19 (Or.inr (slot_ne (Or.inr (hw _ (List.mem_of_getElem? (i := 86) rfl))) (Or.inr (hw _ (List.mem_of_getElem? (i := 84) rfl))) (by decide) (t := .double) (t' := (.object "com/example/bare_ranker/bareranker/search/Idf")) (by decide) (by decide)))
  have F_delta_o := F_delta_o.other W19 (Or.inr (slot_ne (Or.inr (hw _ (List.mem_of_getElem? (i := 88) rfl))) (Or.inr (hw _ (List.mem_of_getElem? (i := 84) rfl))) (by decide) (t := .double) (t' := (.object "com/example/bare_ranker/bareranker/search/Idf")) (by decide) (by decide)))
  have E_o := E_o.wr W19
  have E_ai := E_ai.wr W19
  have K0 := K0.wr W19 (Or.inl (List.mem_of_getElem? (i := 0) rfl))
  have Z0 := Nat.le_trans Z0 (Keep.of_wr W19).1
  have F_idfForm_o := F_idfForm_o.same W19
  have N19 := Fr.snoc X19 N17 g_o
  refine Ends.pre (fun tt kt => st19 _ kt) ?_
  show Ends p e below _ (T19.setTop (mkF m 289 #[.val (.ref o), .val (.ref am), .val (.double (4608083138725491507 : UInt64)), .second, .val (.double (4604930618986332160 : UInt64)), .second, .val (.ref an), .val (.ref ai), .val (.double k3), .second, .val (.double FP.dconst0), .second] []))
  refine Ends.pre (fun tt kt => XS.aloadN X19.here hx rfl (hb hby d4_289) rfl rfl kt) ?_
  show Ends p e below _ (T19.setTop (mkF m 290 #[.val (.ref o), .val (.ref am), .val (.double (4608083138725491507 : UInt64)), .second, .val (.double (4604930618986332160 : UInt64)), .second, .val (.ref an), .val (.ref ai), .val (.double k3), .second, .val (.double FP.dconst0), .second] [(.ref o)]))
  refine Ends.pre (fun tt kt => XS.dload X19.here hx rfl (hb hby d4_290) rfl kt) ?_
  show Ends p e below _ (T19.setTop (mkF m 292 #[.val (.ref o), .val (.ref am), .val (.double (4608083138725491507 : UInt64)), .second, .val (.double (4604930618986332160 : UInt64)), .second, .val (.ref an), .val (.ref ai), .val (.double k3), .second, .val (.double FP.dconst0), .second] [(.double k3), (.ref o)]))
  obtain ⟨T20, h20, X20, e20, W20, st20⟩ := putF X19 hx hZ hown (host := "") (Or.inl (hw _ (List.mem_of_getElem? (i := 85) rfl))) Via.refl e19 F_k3_o E_o (Or.inr ⟨(hw _ (List.mem_of_getElem? (i := 86) rfl)), rfl, hnm⟩) (hw _ (List.mem_of_getElem? (i := 11) rfl)) (ty := .double) (by decide) rfl rfl (g := (mkF m 292 #[.val (.ref o), .val (.ref am), .val (.double (4608083138725491507 : UInt64)), .second, .val (.double (4604930618986332160 : UInt64)), .second, .val (.ref an), .val (.ref ai), .val (.double k3), .second, .val (.double FP.dconst0), .second] [(.double k3), (.ref o)])) rfl rfl (hb hby d4_292)
  have F_delta_o := F_delta_o.other W20 (Or.inr (slot_ne (Or.inr (hw _ (List.mem_of_getElem? (i := 88) rfl))) (Or.inr (hw _ (List.mem_of_getElem? (i := 86) rfl))) (by decide) (t := .double) (t' := .double) (by decide) (by decide)))
  have E_o := E_o.wr W20
  have K0 := K0.wr W20 (Or.inl (List.mem_of_getElem? (i := 0) rfl))
  have Z0 := Nat.le_trans Z0 (Keep.of_wr W20).1
  have F_k3_o := F_k3_o.same W20
  have N20 := Fr.snoc X20 N19 g_o
  refine Ends.pre (fun tt kt => st20 _ kt) ?_
  show Ends p e below _ (T20.setTop (mkF m 295 #[.val (.ref o), .val (.ref am), .val (.double (4608083138725491507 : UInt64)), .second, .val (.double (4604930618986332160 : UInt64)), .second, .val (.ref an), .val (.ref ai), .val (.double k3), .second, .val (.double FP.dconst0), .second] []))
  refine Ends.pre (fun tt kt => XS.aloadN X20.here hx rfl (hb hby d4_295) rfl rfl kt) ?_
  show Ends p e below _ (T20.setTop (mkF m 296 #[.val (.ref o), .val (.ref am), .val (.double (4608083138725491507 : UInt64)), .second, .val (.double (4604930618986332160 : UInt64)), .second, .val (.ref an), .val (.ref ai), .val (.double k3), .second, .val (.double FP.dconst0), .second] [(.ref o)]))
  refine Ends.pre (fun tt kt => XS.dload X20.here hx rfl (hb hby d4_296) rfl kt) ?_
  show Ends p e below _ (T20.setTop (mkF m 298 #[.val (.ref o), .val (.ref am), .val (.double (4608083138725491507 : UInt64)), .second, .val (.double (4604930618986332160 : UInt64)), .second, .val (.ref an), .val (.ref ai), .val (.double k3), .second, .val (.double FP.dconst0), .second] [(.double FP.dconst0), (.ref o)]))
  obtain ⟨T21, h21, X21, e21, W21, st21⟩ := putF X20 hx hZ hown (host := "") (Or.inl (hw _ (List.mem_of_getElem? (i := 87) rfl))) Via.refl e20 F_delta_o E_o (Or.inr ⟨(hw _ (List.mem_of_getElem? (i := 88) rfl)), rfl, hnm⟩) (hw _ (List.mem_of_getElem? (i := 11) rfl)) (ty := .double) (by decide) rfl rfl (g := (mkF m 298 #[.val (.ref o), .val (.ref am), .val (.double (4608083138725491507 : UInt64)), .second, .val (.double (4604930618986332160 : UInt64)), .second, .val (.ref an), .val (.ref ai), .val (.double k3), .second, .val (.double FP.dconst0), .second] [(.double FP.dconst0), (.ref o)])) rfl rfl (hb hby d4_298)
  have F_k3_o := F_k3_o.other W21 (Or.inr (slot_ne (Or.inr (hw _ (List.mem_of_getElem? (i := 86) rfl))) (Or.inr (hw _ (List.mem_of_getElem? (i := 88) rfl))) (by decide) (t := .double) (t' := .double) (by decide) (by decide)))
  have E_o := E_o.wr W21
  have K0 := K0.wr W21 (Or.inl (List.mem_of_getElem? (i := 0) rfl))
  have Z0 := Nat.le_trans Z0 (Keep.of_wr W21).1
  have F_delta_o := F_delta_o.same W21
  have N21 := Fr.snoc X21 N20 g_o
  refine Ends.pre (fun tt kt => st21 _ kt) ?_
  show Ends p e below _ (T21.setTop (mkF m 301 #[.val (.ref o), .val (.ref am), .val (.double (4608083138725491507 : UInt64)), .second, .val (.double (4604930618986332160 : UInt64)), .second, .val (.ref an), .val (.ref ai), .val (.double k3), .second, .val (.double FP.dconst0), .second] []))
  obtain ⟨fs, hr, hrun, hended, hW, hsame⟩ := X21.leave (v := none) (fun _ => rfl)
  refine ⟨_, _, X21.returnOut hx Bd.returns (hb hby d4_301) hr, hrun, hended, _, _, rfl, ?_, ⟨_, rfl⟩, hW, hsame.mono (by decide) (by decide)⟩
  show Q4 Z _ _ _ _ _ _ _ _ _ h0 n0 _ T21.heap _
  rw [e21]
  exact ⟨rfl, N21, K0, E_o, F_k3_o⟩
theorem d3_0 : decode prog_32_method_2_code 0 = .ok (.aload_n 0, 1) := by decide +kernel
theorem d3_1 : decode prog_32_method_2_code 1 = .ok (.getstatic 17, 3) := by decide +kernel
theorem d3_4 : decode prog_32_method_2_code 4 = .ok (.dload_n 1, 1) := by decide +kernel
theorem d3_5 : decode prog_32_method_2_code 5 = .ok (.dload_n 3, 1) := by decide +kernel
theorem d3_6 : decode prog_32_method_2_code 6 = .ok (.getstatic 23, 3) := by decide +kernel
theorem d3_9 : decode prog_32_method_2_code 9 = .ok (.aload 5, 2) := by decide +kernel
theorem d3_11 : decode prog_32_method_2_code 11 = .ok (.dload 6, 2) := by decide +kernel
theorem d3_13 : decode prog_32_method_2_code 13 = .ok (.dconst 0, 1) := by decide +kernel
theorem d3_14 : decode prog_32_method_2_code 14 = .ok (.invokespecial 29, 3) := by decide +kernel
theorem d3_17 : decode prog_32_method_2_code 17 = .ok (.return_, 1) := by decide +kernel
theorem pd3_0 : parseMethodDescriptor "(Lcom/example/bare_ranker/bareranker/search/Model;DDLcom/example/bare_ranker/bareranker/search/LengthNorm;Lcom/example/bare_ranker/bareranker/search/Idf;DD)V" = some ⟨[(.object "com/example/bare_ranker/bareranker/search/Model"), .double, .double, (.object "com/example/bare_ranker/bareranker/search/LengthNorm"), (.object "com/example/bare_ranker/bareranker/search/Idf"), .double, .double], none⟩ := by decide +kernel
theorem pn3 : plainName "com/example/bare_ranker/bareranker/search/Bm25" = true := by first | (simp [plainName, overriddenIn]; done) | decide +kernel
theorem ef3 (m : MethodId) (x0 : Addr) (x1 : UInt64) (x2 : UInt64) (x3 : Addr) (x4 : UInt64) : entryFrame m #[(.ref x0), (.double x1), (.double x2), (.ref x3), (.double x4)] 8 = mkF m 0 #[.val (.ref x0), .val (.double x1), .second, .val (.double x2), .second, .val (.ref x3), .val (.double x4), .second] [] := by first | (simp [entryFrame, mkF, argsToLocals, Value.category]; done) | rfl
def Q3 (Z : State) (o : Addr) (am : Addr) (an : Addr) (ai : Addr) (aL : Addr) (aP : Addr) (aA : Addr) (aF : Addr) (k3 : UInt64) (h0 : Heap) (n0 : Nat) (v : Option Value) (h : Heap) (L : List Loc) : Prop := v = none ∧ Fr n0 L ∧ Keep h0 h [o] ∧ Exa Z h o "com/example/bare_ranker/bareranker/search/Bm25" ∧ Fld Z h o "com/example/bare_ranker/bareranker/search/Bm25" "k3" "D" (.double k3)
set_option maxRecDepth 65536 in
set_option maxHeartbeats 40000000 in
theorem rm3 (l : Launch) (Z : State) (a0 : Array Value) (hw : ∀ d ∈ tables_1, d.before a0 Z = true) (ws : List Jvm.Cond) (o : Addr) (am : Addr) (an : Addr) (ai : Addr) (aL : Addr) (aP : Addr) (aA : Addr) (aF : Addr) (k3 : UInt64) (h0 : Heap) (n0 : Nat) (Z0 : n0 ≤ h0.size) (F_model_o : Fld Z h0 o "com/example/bare_ranker/bareranker/search/Bm25" "model" "Lcom/example/bare_ranker/bareranker/search/Model;" .null) (F_k1_o : Fld Z h0 o "com/example/bare_ranker/bareranker/search/Bm25" "k1" "D" (.double (0 : UInt64))) (F_b_o : Fld Z h0 o "com/example/bare_ranker/bareranker/search/Bm25" "b" "D" (.double (0 : UInt64))) (F_norm_o : Fld Z h0 o "com/example/bare_ranker/bareranker/search/Bm25" "norm" "Lcom/example/bare_ranker/bareranker/search/LengthNorm;" .null) (F_idfForm_o : Fld Z h0 o "com/example/bare_ranker/bareranker/search/Bm25" "idfForm" "Lcom/example/bare_ranker/bareranker/search/Idf;" .null) (F_k3_o : Fld Z h0 o "com/example/bare_ranker/bareranker/search/Bm25" "k3" "D" (.double (0 : UInt64))) (F_delta_o : Fld Z h0 o "com/example/bare_ranker/bareranker/search/Bm25" "delta" "D" (.double (0 : UInt64))) (E_o : Exa Z h0 o "com/example/bare_ranker/bareranker/search/Bm25") (g_o : n0 ≤ o) (E_am : Exa Z h0 am "com/example/bare_ranker/bareranker/search/Model") (E_an : Exa Z h0 an "com/example/bare_ranker/bareranker/search/LengthNorm") (E_ai : Exa Z h0 ai "com/example/bare_ranker/bareranker/search/Idf") (SL : Sta Z h0 "com/example/bare_ranker/bareranker/search/Model" "BM25L" "Lcom/example/bare_ranker/bareranker/search/Model;" (.ref aL)) (SP : Sta Z h0 "com/example/bare_ranker/bareranker/search/Model" "BM25_PLUS" "Lcom/example/bare_ranker/bareranker/search/Model;" (.ref aP)) (SA : Sta Z h0 "com/example/bare_ranker/bareranker/search/Model" "BM25_ADPT" "Lcom/example/bare_ranker/bareranker/search/Model;" (.ref aA)) (SF : Sta Z h0 "com/example/bare_ranker/bareranker/search/Model" "BM25F" "Lcom/example/bare_ranker/bareranker/search/Model;" (.ref aF)) (SV : Sta Z h0 "com/example/bare_ranker/bareranker/search/LengthNorm" "PIVOTED" "Lcom/example/bare_ranker/bareranker/search/LengthNorm;" (.ref an)) (n1 : am ≠ aL) (n2 : am ≠ aP) (n3 : am ≠ aA) (n4 : am ≠ aF) (hk3 : ¬ (cmpValue (FP.dcmp k3 FP.dconst0) .l) < (0 : Int32)) (SB : Sta Z h0 "com/example/bare_ranker/bareranker/search/Model" "BM25" "Lcom/example/bare_ranker/bareranker/search/Model;" (.ref am)) :
    MetFree l (⟨"com/example/bare_ranker/bareranker/search/Bm25", "<init>", "(DDLcom/example/bare_ranker/bareranker/search/Idf;D)V"⟩ : MethodName) (head1 (Jvm.Cond.code (⟨"com/example/bare_ranker/bareranker/search/Bm25", "<init>", "(DDLcom/example/bare_ranker/bareranker/search/Idf;D)V"⟩ : MethodName) prog_32_method_2_code 8 none :: ws) ({ frames := 2, cells := 0, slots := 0, locals := 36 } : Room)) (fun aa U => aa = #[(.ref o), (.double (4608083138725491507 : UInt64)), (.double (4604930618986332160 : UInt64)), (.ref ai), (.double k3)] ∧ Z.Warmed39 U.vm ∧ U.heap = h0) (fun _ _ _ _ _ => True) (fun _ UU oo UU' => ∃ vv LL, oo = .returned vv ∧ Q3 Z o am an ai aL aP aA aF k3 h0 n0 vv UU'.heap LL ∧ FrameEnd UU oo UU' LL ({ frames := 2, cells := 0, slots := 0, locals := 36 } : Room).cells ({ frames := 2, cells := 0, slots := 0, locals := 36 } : Room).slots) := by
  refine MetFree.of_bodySF (plainFor_of_name pn3) hisR ?_
  intro p e s m args below meth c s₁ Bd hml0 hP hK
  obtain ⟨rfl, hZ, hh⟩ := hP
  have hx := Bd.exec
  have hby := Bd.bytes
  have hml : c.maxLocals = 8 := hml0
  have hown : s.vm.findClass "com/example/bare_ranker/bareranker/search/Bm25" = some m.cls := findClass_of_methodNamed Bd.named
  have hnm := (name_of_methodNamed Bd.named Bd.method).1
  have X0 : Stand p l e ({ frames := 2, cells := 0, slots := 0, locals := 36 } : Room) s m #[(.ref o), (.double (4608083138725491507 : UInt64)), (.double (4604930618986332160 : UInt64)), (.ref ai), (.double k3)] below meth c s₁ [] 0 0 := Stand.of_body Bd
  have e0 : s₁.heap = h0 := by rw [← hh, Bd.state]; rfl
  have N0 := Fr.nil n0
  show Ends p e below (fun tt oo => ∃ vv LL, oo = .returned vv ∧ Q3 Z o am an ai aL aP aA aF k3 h0 n0 vv tt.heap LL ∧ FrameEnd s oo tt LL ({ frames := 2, cells := 0, slots := 0, locals := 36 } : Room).cells ({ frames := 2, cells := 0, slots := 0, locals := 36 } : Room).slots) (s₁.setTop (entryFrame m #[(.ref o), (.double (4608083138725491507 : UInt64)), (.double (4604930618986332160 : UInt64)), (.ref ai), (.double k3)] 8))
  refine Ends.pre (fun t k => castTop (ef3 m o (4608083138725491507 : UInt64) (4604930618986332160 : UInt64) ai k3) k) ?_
  show Ends p e below _ (s₁.setTop (mkF m 0 #[.val (.ref o), .val (.double (4608083138725491507 : UInt64)), .second, .val (.double (4604930618986332160 : UInt64)), .second, .val (.ref ai), .val (.double k3), .second] []))
  have K0 := Keep.refl h0 [o]
  refine Ends.pre (fun tt kt => XS.aloadN X0.here hx rfl (hb hby d3_0) rfl rfl kt) ?_
  show Ends p e below _ (s₁.setTop (mkF m 1 #[.val (.ref o), .val (.double (4608083138725491507 : UInt64)), .second, .val (.double (4604930618986332160 : UInt64)), .second, .val (.ref ai), .val (.double k3), .second] [(.ref o)]))
  obtain ⟨T22, X22, e22, st22⟩ := getS2 X0 hx hZ hown (host := "") (Or.inl (hw _ (List.mem_of_getElem? (i := 21) rfl))) Via.refl e0 SB (g := (mkF m 1 #[.val (.ref o), .val (.double (4608083138725491507 : UInt64)), .second, .val (.double (4604930618986332160 : UInt64)), .second, .val (.ref ai), .val (.double k3), .second] [(.ref o)])) rfl (hb hby d3_1)
  refine Ends.pre (fun tt kt => st22 _ kt) ?_
  show Ends p e below _ (T22.setTop (mkF m 4 #[.val (.ref o), .val (.double (4608083138725491507 : UInt64)), .second, .val (.double (4604930618986332160 : UInt64)), .second, .val (.ref ai), .val (.double k3), .second] [(.ref am), (.ref o)]))
  refine Ends.pre (fun tt kt => XS.dloadN X22.here hx rfl (hb hby d3_4) rfl kt) ?_
  show Ends p e below _ (T22.setTop (mkF m 5 #[.val (.ref o), .val (.double (4608083138725491507 : UInt64)), .second, .val (.double (4604930618986332160 : UInt64)), .second, .val (.ref ai), .val (.double k3), .second] [(.double (4608083138725491507 : UInt64)), (.ref am), (.ref o)]))
  refine Ends.pre (fun tt kt => XS.dloadN X22.here hx rfl (hb hby d3_5) rfl kt) ?_
  show Ends p e below _ (T22.setTop (mkF m 6 #[.val (.ref o), .val (.double (4608083138725491507 : UInt64)), .second, .val (.double (4604930618986332160 : UInt64)), .second, .val (.ref ai), .val (.double k3), .second] [(.double (4604930618986332160 : UInt64)), (.double (4608083138725491507 : UInt64)), (.ref am), (.ref o)]))
  obtain ⟨T23, X23, e23, st23⟩ := getS2 X22 hx hZ hown (host := "") (Or.inl (hw _ (List.mem_of_getElem? (i := 24) rfl))) Via.refl e22 SV (g := (mkF m 6 #[.val (.ref o), .val (.double (4608083138725491507 : UInt64)), .second, .val (.double (4604930618986332160 : UInt64)), .second, .val (.ref ai), .val (.double k3), .second] [(.double (4604930618986332160 : UInt64)), (.double (4608083138725491507 : UInt64)), (.ref am), (.ref o)])) rfl (hb hby d3_6)
  refine Ends.pre (fun tt kt => st23 _ kt) ?_
  show Ends p e below _ (T23.setTop (mkF m 9 #[.val (.ref o), .val (.double (4608083138725491507 : UInt64)), .second, .val (.double (4604930618986332160 : UInt64)), .second, .val (.ref ai), .val (.double k3), .second] [(.ref an), (.double (4604930618986332160 : UInt64)), (.double (4608083138725491507 : UInt64)), (.ref am), (.ref o)]))
  refine Ends.pre (fun tt kt => XS.aload X23.here hx rfl (hb hby d3_9) rfl rfl kt) ?_
  show Ends p e below _ (T23.setTop (mkF m 11 #[.val (.ref o), .val (.double (4608083138725491507 : UInt64)), .second, .val (.double (4604930618986332160 : UInt64)), .second, .val (.ref ai), .val (.double k3), .second] [(.ref ai), (.ref an), (.double (4604930618986332160 : UInt64)), (.double (4608083138725491507 : UInt64)), (.ref am), (.ref o)]))
  refine Ends.pre (fun tt kt => XS.dload X23.here hx rfl (hb hby d3_11) rfl kt) ?_
  show Ends p e below _ (T23.setTop (mkF m 13 #[.val (.ref o), .val (.double (4608083138725491507 : UInt64)), .second, .val (.double (4604930618986332160 : UInt64)), .second, .val (.ref ai), .val (.double k3), .second] [(.double k3), (.ref ai), (.ref an), (.double (4604930618986332160 : UInt64)), (.double (4608083138725491507 : UInt64)), (.ref am), (.ref o)]))
  refine Ends.pre (fun tt kt => XS.dconst0 X23.here hx rfl (hb hby d3_13) rfl kt) ?_
  show Ends p e below _ (T23.setTop (mkF m 14 #[.val (.ref o), .val (.double (4608083138725491507 : UInt64)), .second, .val (.double (4604930618986332160 : UInt64)), .second, .val (.ref ai), .val (.double k3), .second] [(.double FP.dconst0), (.double k3), (.ref ai), (.ref an), (.double (4604930618986332160 : UInt64)), (.double (4608083138725491507 : UInt64)), (.ref am), (.ref o)]))
  obtain ⟨_, _, ⟨T24, L24, k24, n24⟩, -, X24, ⟨Lc24, hQ24, l24, y24, z24⟩, st24⟩ := X23.specialBack hx (y := (⟨"com/example/bare_ranker/bareranker/search/Bm25", "<init>", "(Lcom/example/bare_ranker/bareranker/search/Model;DDLcom/example/bare_ranker/bareranker/search/LengthNorm;Lcom/example/bare_ranker/bareranker/search/Idf;DD)V"⟩ : MethodName)) rfl hown (mvT hZ (hw _ (List.mem_of_getElem? (i := 27) rfl))) (mvT hZ (hw _ (List.mem_of_getElem? (i := 28) rfl))) (mvT hZ (hw _ (List.mem_of_getElem? (i := 29) rfl))) (by decide) (backOf (W := 0) (rm4 l Z a0 hw [] o am an ai aL aP aA aF k3 h0 n0 Z0 F_model_o F_k1_o F_b_o F_norm_o F_idfForm_o F_k3_o F_delta_o E_o g_o E_am E_an E_ai SL SP SA SF SV n1 n2 n3 n4 hk3) hZ (hw _ (List.mem_of_getElem? (i := 29) rfl)) (hw _ (List.mem_of_getElem? (i := 12) rfl)) (by decide) (by decide)) (g := (mkF m 14 #[.val (.ref o), .val (.double (4608083138725491507 : UInt64)), .second, .val (.double (4604930618986332160 : UInt64)), .second, .val (.ref ai), .val (.double k3), .second] [(.double FP.dconst0), (.double k3), (.ref ai), (.ref an), (.double (4604930618986332160 : UInt64)), (.double (4608083138725491507 : UInt64)), (.ref am), (.ref o)])) rfl (by rw [hml]; rfl) (Steps.refl _) (a := o) (argsL := [(.ref am), (.double (4608083138725491507 : UInt64)), (.double (4604930618986332160 : UInt64)), (.ref an), (.ref ai), (.double k3), (.double FP.dconst0)]) (rest := []) (lenOf pd3_0 rfl) rfl (by show 2 * 0 + _ ≤ _; exact Nat.le_of_eq rfl) (hb hby d3_14) (fun _ _ => ⟨rfl, e23, (show (0 : Nat) + (0 : Nat) ≤ _ from by decide), (show (0 : Nat) + (0 : Nat) ≤ _ from by decide)⟩)
  dsimp only [Pt.U, Pt.locs, Pt.cells, Pt.slots] at X24 l24 y24 z24 st24 hQ24
  subst l24 y24 z24
  obtain ⟨rfl, N24q, K24, G24_0, G24_1⟩ := hQ24
  have SB := own_sta_keep1 SB K24 E_o
  have SV := own_sta_keep1 SV K24 E_o
  have K0 := K0.trans K24 (allS (Or.inl (List.mem_of_getElem? (i := 0) rfl)) all0)
  have Z0 := Nat.le_trans Z0 K24.1
  have E_o := G24_0
  have F_k3_o := G24_1
  have N24 := Fr.app N0 N24q
  refine Ends.pre (fun tt kt => st24.trans kt) ?_
  show Ends p e below _ (T24.setTop (mkF m 17 #[.val (.ref o), .val (.double (4608083138725491507 : UInt64)), .second, .val (.double (4604930618986332160 : UInt64)), .second, .val (.ref ai), .val (.double k3), .second] []))
  obtain ⟨fs, hr, hrun, hended, hW, hsame⟩ := X24.leave (v := none) (fun _ => rfl)
  refine ⟨_, _, X24.returnOut hx Bd.returns (hb hby d3_17) hr, hrun, hended, _, _, rfl, ?_, ⟨_, rfl⟩, hW, hsame.mono (by decide) (by decide)⟩
  show Q3 Z _ _ _ _ _ _ _ _ _ h0 n0 _ T24.heap _
  exact ⟨rfl, N24, K0, E_o, F_k3_o⟩
theorem d2_0 : decode method_2_code 0 = .ok (.new 7, 3) := by decide +kernel
theorem d2_3 : decode method_2_code 3 = .ok (.dup, 1) := by decide +kernel
theorem d2_4 : decode method_2_code 4 = .ok (.ldc2_w 9, 3) := by decide +kernel
theorem d2_7 : decode method_2_code 7 = .ok (.ldc2_w 11, 3) := by decide +kernel
theorem d2_10 : decode method_2_code 10 = .ok (.getstatic 13, 3) := by decide +kernel
theorem d2_13 : decode method_2_code 13 = .ok (.dload_n 0, 1) := by decide +kernel
theorem d2_14 : decode method_2_code 14 = .ok (.invokespecial 19, 3) := by decide +kernel
theorem d2_17 : decode method_2_code 17 = .ok (.areturn, 1) := by decide +kernel
theorem pd2_0 : parseMethodDescriptor "(DDLcom/example/bare_ranker/bareranker/search/Idf;D)V" = some ⟨[.double, .double, (.object "com/example/bare_ranker/bareranker/search/Idf"), .double], none⟩ := by decide +kernel
theorem pn2 : plainName "com/example/bare_ranker/bareranker/search/Bm25QueryWeightPinLaw" = true := by first | (simp [plainName, overriddenIn]; done) | decide +kernel
theorem ef2 (m : MethodId) (x0 : UInt64) : entryFrame m #[(.double x0)] 2 = mkF m 0 #[.val (.double x0), .second] [] := by first | (simp [entryFrame, mkF, argsToLocals, Value.category]; done) | rfl
def Q2 (Z : State) (am : Addr) (an : Addr) (ai : Addr) (aL : Addr) (aP : Addr) (aA : Addr) (aF : Addr) (k3 : UInt64) (h0 : Heap) (n0 : Nat) (v : Option Value) (h : Heap) (L : List Loc) : Prop := v = some (.ref h0.size) ∧ Fr n0 L ∧ Keep h0 h [] ∧ Exa Z h h0.size "com/example/bare_ranker/bareranker/search/Bm25" ∧ Fld Z h h0.size "com/example/bare_ranker/bareranker/search/Bm25" "k3" "D" (.double k3)
set_option maxRecDepth 65536 in
set_option maxHeartbeats 40000000 in
theorem rm2 (l : Launch) (Z : State) (a0 : Array Value) (hw : ∀ d ∈ tables_1, d.before a0 Z = true) (ws : List Jvm.Cond) (am : Addr) (an : Addr) (ai : Addr) (aL : Addr) (aP : Addr) (aA : Addr) (aF : Addr) (k3 : UInt64) (h0 : Heap) (n0 : Nat) (Z0 : n0 ≤ h0.size) (E_am : Exa Z h0 am "com/example/bare_ranker/bareranker/search/Model") (E_an : Exa Z h0 an "com/example/bare_ranker/bareranker/search/LengthNorm") (E_ai : Exa Z h0 ai "com/example/bare_ranker/bareranker/search/Idf") (SL : Sta Z h0 "com/example/bare_ranker/bareranker/search/Model" "BM25L" "Lcom/example/bare_ranker/bareranker/search/Model;" (.ref aL)) (SP : Sta Z h0 "com/example/bare_ranker/bareranker/search/Model" "BM25_PLUS" "Lcom/example/bare_ranker/bareranker/search/Model;" (.ref aP)) (SA : Sta Z h0 "com/example/bare_ranker/bareranker/search/Model" "BM25_ADPT" "Lcom/example/bare_ranker/bareranker/search/Model;" (.ref aA)) (SF : Sta Z h0 "com/example/bare_ranker/bareranker/search/Model" "BM25F" "Lcom/example/bare_ranker/bareranker/search/Model;" (.ref aF)) (SV : Sta Z h0 "com/example/bare_ranker/bareranker/search/LengthNorm" "PIVOTED" "Lcom/example/bare_ranker/bareranker/search/LengthNorm;" (.ref an)) (SB : Sta Z h0 "com/example/bare_ranker/bareranker/search/Model" "BM25" "Lcom/example/bare_ranker/bareranker/search/Model;" (.ref am)) (SI : Sta Z h0 "com/example/bare_ranker/bareranker/search/Idf" "LOG1P" "Lcom/example/bare_ranker/bareranker/search/Idf;" (.ref ai)) (n1 : am ≠ aL) (n2 : am ≠ aP) (n3 : am ≠ aA) (n4 : am ≠ aF) (hk3 : ¬ (cmpValue (FP.dcmp k3 FP.dconst0) .l) < (0 : Int32)) :
    MetFree l (⟨"com/example/bare_ranker/bareranker/search/Bm25QueryWeightPinLaw", "make", "(D)Lcom/example/bare_ranker/bareranker/search/Bm25;"⟩ : MethodName) (head1 (Jvm.Cond.code (⟨"com/example/bare_ranker/bareranker/search/Bm25QueryWeightPinLaw", "make", "(D)Lcom/example/bare_ranker/bareranker/search/Bm25;"⟩ : MethodName) method_2_code 2 (some (.object "com/example/bare_ranker/bareranker/search/Bm25")) :: ws) ({ frames := 3, cells := 1, slots := 7, locals := 56 } : Room)) (fun aa U => aa = #[(.double k3)] ∧ Z.Warmed39 U.vm ∧ U.heap = h0) (fun _ _ _ _ _ => True) (fun _ UU oo UU' => ∃ vv LL, oo = .returned vv ∧ Q2 Z am an ai aL aP aA aF k3 h0 n0 vv UU'.heap LL ∧ FrameEnd UU oo UU' LL ({ frames := 3, cells := 1, slots := 7, locals := 56 } : Room).cells ({ frames := 3, cells := 1, slots := 7, locals := 56 } : Room).slots) := by
  refine MetFree.of_bodySF (plainFor_of_name pn2) hisR ?_
  intro p e s m args below meth c s₁ Bd hml0 hP hK
  obtain ⟨rfl, hZ, hh⟩ := hP
  have hx := Bd.exec
  have hby := Bd.bytes
  have hml : c.maxLocals = 2 := hml0
  have hown : s.vm.findClass "com/example/bare_ranker/bareranker/search/Bm25QueryWeightPinLaw" = some m.cls := findClass_of_methodNamed Bd.named
  have hnm := (name_of_methodNamed Bd.named Bd.method).1
  have X0 : Stand p l e ({ frames := 3, cells := 1, slots := 7, locals := 56 } : Room) s m #[(.double k3)] below meth c s₁ [] 0 0 := Stand.of_body Bd
  have e0 : s₁.heap = h0 := by rw [← hh, Bd.state]; rfl
  have N0 := Fr.nil n0
  show Ends p e below (fun tt oo => ∃ vv LL, oo = .returned vv ∧ Q2 Z am an ai aL aP aA aF k3 h0 n0 vv tt.heap LL ∧ FrameEnd s oo tt LL ({ frames := 3, cells := 1, slots := 7, locals := 56 } : Room).cells ({ frames := 3, cells := 1, slots := 7, locals := 56 } : Room).slots) (s₁.setTop (entryFrame m #[(.double k3)] 2))
  refine Ends.pre (fun t k => castTop (ef2 m k3) k) ?_
  show Ends p e below _ (s₁.setTop (mkF m 0 #[.val (.double k3), .second] []))
  have K0 := Keep.refl h0 []
  obtain ⟨T25, h25, X25, e25, E25, A25, D25, -, st25⟩ := newO X0 hx hZ hown (hw _ (List.mem_of_getElem? (i := 10) rfl)) (hw _ (List.mem_of_getElem? (i := 11) rfl)) (hw _ (List.mem_of_getElem? (i := 12) rfl)) e0 (g := (mkF m 0 #[.val (.double k3), .second] [])) rfl (hb hby d2_0) (by decide) (by decide)
  obtain ⟨b25, g25⟩ : ∃ z, z = h0.size := ⟨_, rfl⟩
  rw [← g25] at A25 D25 st25
  have ne_am_b25 : am ≠ b25 := Nat.ne_of_lt (Nat.lt_of_lt_of_le E_am.lt (Nat.le_of_eq g25.symm))
  have ne_an_b25 : an ≠ b25 := Nat.ne_of_lt (Nat.lt_of_lt_of_le E_an.lt (Nat.le_of_eq g25.symm))
  have ne_ai_b25 : ai ≠ b25 := Nat.ne_of_lt (Nat.lt_of_lt_of_le E_ai.lt (Nat.le_of_eq g25.symm))
  have g_b25 : n0 ≤ b25 := Nat.le_trans Z0 (Nat.le_of_eq g25.symm)
  have sz_b25 : h0.size ≤ b25 := Nat.le_trans K0.1 (Nat.le_of_eq g25.symm)
  have E_am := E_am.ext E25
  have E_an := E_an.ext E25
  have E_ai := E_ai.ext E25
  have SL := SL.ext E25
  have SP := SP.ext E25
  have SA := SA.ext E25
  have SF := SF.ext E25
  have SV := SV.ext E25
  have SB := SB.ext E25
  have SI := SI.ext E25
  have K0 := K0.ext E25
  have Z0 := Nat.le_trans Z0 E25.1
  have F_model_b25 : Fld Z h25 b25 "com/example/bare_ranker/bareranker/search/Bm25" "model" "Lcom/example/bare_ranker/bareranker/search/Model;" .null := D25 (Or.inr (hw _ (List.mem_of_getElem? (i := 70) rfl))) (ty := (.object "com/example/bare_ranker/bareranker/search/Model")) (by decide)
  have F_k1_b25 : Fld Z h25 b25 "com/example/bare_ranker/bareranker/search/Bm25" "k1" "D" (.double (0 : UInt64)) := D25 (Or.inr (hw _ (List.mem_of_getElem? (i := 72) rfl))) (ty := .double) (by decide)
  have F_b_b25 : Fld Z h25 b25 "com/example/bare_ranker/bareranker/search/Bm25" "b" "D" (.double (0 : UInt64)) := D25 (Or.inr (hw _ (List.mem_of_getElem? (i := 74) rfl))) (ty := .double) (by decide)
  have F_norm_b25 : Fld Z h25 b25 "com/example/bare_ranker/bareranker/search/Bm25" "norm" "Lcom/example/bare_ranker/bareranker/search/LengthNorm;" .null := D25 (Or.inr (hw _ (List.mem_of_getElem? (i := 76) rfl))) (ty := (.object "com/example/bare_ranker/bareranker/search/LengthNorm")) (by decide)
  have F_idfForm_b25 : Fld Z h25 b25 "com/example/bare_ranker/bareranker/search/Bm25" "idfForm" "Lcom/example/bare_ranker/bareranker/search/Idf;" .null := D25 (Or.inr (hw _ (List.mem_of_getElem? (i := 84) rfl))) (ty := (.object "com/example/bare_ranker/bareranker/search/Idf")) (by decide)
  have F_k3_b25 : Fld Z h25 b25 "com/example/bare_ranker/bareranker/search/Bm25" "k3" "D" (.double (0 : UInt64)) := D25 (Or.inr (hw _ (List.mem_of_getElem? (i := 86) rfl))) (ty := .double) (by decide)
  have F_delta_b25 : Fld Z h25 b25 "com/example/bare_ranker/bareranker/search/Bm25" "delta" "D" (.double (0 : UInt64)) := D25 (Or.inr (hw _ (List.mem_of_getElem? (i := 88) rfl))) (ty := .double) (by decide)
  have E_b25 := A25
  refine Ends.pre (fun tt kt => st25 _ kt) ?_
  show Ends p e below _ (T25.setTop (mkF m 3 #[.val (.double k3), .second] [(.ref b25)]))
  refine Ends.pre (fun tt kt => XS.dup X25.here hx rfl (hb hby d2_3) rfl rfl kt) ?_
  show Ends p e below _ (T25.setTop (mkF m 4 #[.val (.double k3), .second] [(.ref b25), (.ref b25)]))
  refine Ends.pre (fun tt kt => X25.ldc2DoubleC hx hown (mvT hZ (hw _ (List.mem_of_getElem? (i := 13) rfl))) (g := (mkF m 4 #[.val (.double k3), .second] [(.ref b25), (.ref b25)])) rfl (hb hby d2_4) _ kt) ?_
  show Ends p e below _ (T25.setTop (mkF m 7 #[.val (.double k3), .second] [(.double (4608083138725491507 : UInt64)), (.ref b25), (.ref b25)]))
  refine Ends.pre (fun tt kt => X25.ldc2DoubleC hx hown (mvT hZ (hw _ (List.mem_of_getElem? (i := 14) rfl))) (g := (mkF m 7 #[.val (.double k3), .second] [(.double (4608083138725491507 : UInt64)), (.ref b25), (.ref b25)])) rfl (hb hby d2_7) _ kt) ?_
  show Ends p e below _ (T25.setTop (mkF m 10 #[.val (.double k3), .second] [(.double (4604930618986332160 : UInt64)), (.double (4608083138725491507 : UInt64)), (.ref b25), (.ref b25)]))
  obtain ⟨T26, X26, e26, st26⟩ := getS2 X25 hx hZ hown (host := "") (Or.inl (hw _ (List.mem_of_getElem? (i := 15) rfl))) Via.refl e25 SI (g := (mkF m 10 #[.val (.double k3), .second] [(.double (4604930618986332160 : UInt64)), (.double (4608083138725491507 : UInt64)), (.ref b25), (.ref b25)])) rfl (hb hby d2_10)
  refine Ends.pre (fun tt kt => st26 _ kt) ?_
  show Ends p e below _ (T26.setTop (mkF m 13 #[.val (.double k3), .second] [(.ref ai), (.double (4604930618986332160 : UInt64)), (.double (4608083138725491507 : UInt64)), (.ref b25), (.ref b25)]))
  refine Ends.pre (fun tt kt => XS.dloadN X26.here hx rfl (hb hby d2_13) rfl kt) ?_
  show Ends p e below _ (T26.setTop (mkF m 14 #[.val (.double k3), .second] [(.double k3), (.ref ai), (.double (4604930618986332160 : UInt64)), (.double (4608083138725491507 : UInt64)), (.ref b25), (.ref b25)]))
  obtain ⟨_, _, ⟨T27, L27, k27, n27⟩, -, X27, ⟨Lc27, hQ27, l27, y27, z27⟩, st27⟩ := X26.specialBack hx (y := (⟨"com/example/bare_ranker/bareranker/search/Bm25", "<init>", "(DDLcom/example/bare_ranker/bareranker/search/Idf;D)V"⟩ : MethodName)) rfl hown (mvT hZ (hw _ (List.mem_of_getElem? (i := 18) rfl))) (mvT hZ (hw _ (List.mem_of_getElem? (i := 19) rfl))) (mvT hZ (hw _ (List.mem_of_getElem? (i := 20) rfl))) (by decide) (backOf (W := 1) (rm3 l Z a0 hw [] b25 am an ai aL aP aA aF k3 h25 n0 Z0 F_model_b25 F_k1_b25 F_b_b25 F_norm_b25 F_idfForm_b25 F_k3_b25 F_delta_b25 E_b25 g_b25 E_am E_an E_ai SL SP SA SF SV n1 n2 n3 n4 hk3 SB) hZ (hw _ (List.mem_of_getElem? (i := 20) rfl)) (hw _ (List.mem_of_getElem? (i := 12) rfl)) (by decide) (by decide)) (g := (mkF m 14 #[.val (.double k3), .second] [(.double k3), (.ref ai), (.double (4604930618986332160 : UInt64)), (.double (4608083138725491507 : UInt64)), (.ref b25), (.ref b25)])) rfl (by rw [hml]; rfl) (Steps.refl _) (a := b25) (argsL := [(.double (4608083138725491507 : UInt64)), (.double (4604930618986332160 : UInt64)), (.ref ai), (.double k3)]) (rest := [(.ref b25)]) (lenOf pd2_0 rfl) rfl (by show 2 * 0 + _ ≤ _; exact Nat.le_of_eq rfl) (hb hby d2_14) (fun _ _ => ⟨rfl, e26, (show (1 : Nat) + (0 : Nat) ≤ _ from by decide), (show (7 : Nat) + (0 : Nat) ≤ _ from by decide)⟩)
  dsimp only [Pt.U, Pt.locs, Pt.cells, Pt.slots] at X27 l27 y27 z27 st27 hQ27
  subst l27 y27 z27
  obtain ⟨rfl, N27q, K27, G27_0, G27_1⟩ := hQ27
  have E_am := E_am.keep K27
  have E_an := E_an.keep K27
  have E_ai := E_ai.keep K27
  have SL := own_sta_keep1 SL K27 E_b25
  have SP := own_sta_keep1 SP K27 E_b25
  have SA := own_sta_keep1 SA K27 E_b25
  have SF := own_sta_keep1 SF K27 E_b25
  have SV := own_sta_keep1 SV K27 E_b25
  have SB := own_sta_keep1 SB K27 E_b25
  have SI := own_sta_keep1 SI K27 E_b25
  have K0 := K0.trans K27 (allS (Or.inr sz_b25) all0)
  have Z0 := Nat.le_trans Z0 K27.1
  have E_b25 := G27_0
  have F_k3_b25 := G27_1
  have N27 := Fr.app N0 N27q
  refine Ends.pre (fun tt kt => st27.trans kt) ?_
  show Ends p e below _ (T27.setTop (mkF m 17 #[.val (.double k3), .second] [(.ref b25)]))
  obtain ⟨fs, hr, hrun, hended, hW, hsame⟩ := X27.leave (v := some (.ref b25)) (fun h => by rw [Bd.returns] at h; cases h)
  refine ⟨_, _, retOut X27 hx Bd.returns rfl (Or.inr (Or.inr (Or.inr (Or.inr ⟨rfl, rfl, rfl⟩)))) (hb hby d2_17) hr, hrun, hended, _, _, rfl, ?_, ⟨_, rfl⟩, hW, hsame.mono (by decide) (by decide)⟩
  show Q2 Z _ _ _ _ _ _ _ _ h0 n0 _ T27.heap _
  exact ⟨by rw [g25], N27, K0, g25 ▸ E_b25, g25 ▸ F_k3_b25⟩
theorem d12_0 : decode prog_32_method_8_code 0 = .ok (.iload_n 1, 1) := by decide +kernel
theorem d12_1 : decode prog_32_method_8_code 1 = .ok (.i2d, 1) := by decide +kernel
theorem d12_2 : decode prog_32_method_8_code 2 = .ok (.iload_n 1, 1) := by decide +kernel
theorem d12_3 : decode prog_32_method_8_code 3 = .ok (.iconst 1, 1) := by decide +kernel
theorem d12_4 : decode prog_32_method_8_code 4 = .ok (.isub, 1) := by decide +kernel
theorem d12_5 : decode prog_32_method_8_code 5 = .ok (.i2d, 1) := by decide +kernel
theorem d12_6 : decode prog_32_method_8_code 6 = .ok (.dmul, 1) := by decide +kernel
theorem d12_7 : decode prog_32_method_8_code 7 = .ok (.aload_n 0, 1) := by decide +kernel
theorem d12_8 : decode prog_32_method_8_code 8 = .ok (.getfield 108, 3) := by decide +kernel
theorem d12_11 : decode prog_32_method_8_code 11 = .ok (.iload_n 1, 1) := by decide +kernel
theorem d12_12 : decode prog_32_method_8_code 12 = .ok (.i2d, 1) := by decide +kernel
theorem d12_13 : decode prog_32_method_8_code 13 = .ok (.dadd, 1) := by decide +kernel
theorem d12_14 : decode prog_32_method_8_code 14 = .ok (.ddiv, 1) := by decide +kernel
theorem d12_15 : decode prog_32_method_8_code 15 = .ok (.dstore 4, 2) := by decide +kernel
theorem d12_17 : decode prog_32_method_8_code 17 = .ok (.iload_n 1, 1) := by decide +kernel
theorem d12_18 : decode prog_32_method_8_code 18 = .ok (.i2d, 1) := by decide +kernel
theorem d12_19 : decode prog_32_method_8_code 19 = .ok (.dload 4, 2) := by decide +kernel
theorem d12_21 : decode prog_32_method_8_code 21 = .ok (.dsub, 1) := by decide +kernel
theorem d12_22 : decode prog_32_method_8_code 22 = .ok (.dstore 6, 2) := by decide +kernel
theorem d12_24 : decode prog_32_method_8_code 24 = .ok (.dload 6, 2) := by decide +kernel
theorem d12_26 : decode prog_32_method_8_code 26 = .ok (.dload_n 2, 1) := by decide +kernel
theorem d12_27 : decode prog_32_method_8_code 27 = .ok (.dmul, 1) := by decide +kernel
theorem d12_28 : decode prog_32_method_8_code 28 = .ok (.dreturn, 1) := by decide +kernel
theorem pn12 : plainName "com/example/bare_ranker/bareranker/search/Bm25" = true := by first | (simp [plainName, overriddenIn]; done) | decide +kernel
theorem ef12 (m : MethodId) (x0 : Addr) (x1 : Int32) (x2 : UInt64) : entryFrame m #[(.ref x0), (.int x1), (.double x2)] 8 = mkF m 0 #[.val (.ref x0), .val (.int x1), .val (.double x2), .second, .unset, .unset, .unset, .unset] [] := by first | (simp [entryFrame, mkF, argsToLocals, Value.category]; done) | rfl
def Q12 (Z : State) (o : Addr) (q : Int32) (idf : UInt64) (k3 : UInt64) (h0 : Heap) (n0 : Nat) (v : Option Value) (h : Heap) (L : List Loc) : Prop := v = some (.double (own_qw q k3 idf)) ∧ Fr n0 L ∧ h = h0
set_option maxRecDepth 65536 in
set_option maxHeartbeats 40000000 in
theorem rm12 (l : Launch) (Z : State) (a0 : Array Value) (hw : ∀ d ∈ tables_1, d.before a0 Z = true) (ws : List Jvm.Cond) (o : Addr) (q : Int32) (idf : UInt64) (k3 : UInt64) (h0 : Heap) (n0 : Nat) (Z0 : n0 ≤ h0.size) (F : Fld Z h0 o "com/example/bare_ranker/bareranker/search/Bm25" "k3" "D" (.double k3)) (hok : own_ok q k3 idf) :
    MetFree l (⟨"com/example/bare_ranker/bareranker/search/Bm25", "queryWeight", "(ID)D"⟩ : MethodName) (head1 (Jvm.Cond.code (⟨"com/example/bare_ranker/bareranker/search/Bm25", "queryWeight", "(ID)D"⟩ : MethodName) prog_32_method_8_code 8 (some .double) :: ws) ({ frames := 0, cells := 0, slots := 0, locals := 0 } : Room)) (fun aa U => aa = #[(.ref o), (.int q), (.double idf)] ∧ Z.Warmed39 U.vm ∧ U.heap = h0) (fun _ _ _ _ _ => True) (fun _ UU oo UU' => ∃ vv LL, oo = .returned vv ∧ Q12 Z o q idf k3 h0 n0 vv UU'.heap LL ∧ FrameEnd UU oo UU' LL ({ frames := 0, cells := 0, slots := 0, locals := 0 } : Room).cells ({ frames := 0, cells := 0, slots := 0, locals := 0 } : Room).slots) := by
  refine MetFree.of_bodySF (plainFor_of_name pn12) hisR ?_
  intro p e s m args below meth c s₁ Bd hml0 hP hK
  obtain ⟨rfl, hZ, hh⟩ := hP
  have hx := Bd.exec
  have hby := Bd.bytes
  have hml : c.maxLocals = 8 := hml0
  have hown : s.vm.findClass "com/example/bare_ranker/bareranker/search/Bm25" = some m.cls := findClass_of_methodNamed Bd.named
  have hnm := (name_of_methodNamed Bd.named Bd.method).1
  have X0 : Stand p l e ({ frames := 0, cells := 0, slots := 0, locals := 0 } : Room) s m #[(.ref o), (.int q), (.double idf)] below meth c s₁ [] 0 0 := Stand.of_body Bd
  have e0 : s₁.heap = h0 := by rw [← hh, Bd.state]; rfl
  have N0 := Fr.nil n0
  show Ends p e below (fun tt oo => ∃ vv LL, oo = .returned vv ∧ Q12 Z o q idf k3 h0 n0 vv tt.heap LL ∧ FrameEnd s oo tt LL ({ frames := 0, cells := 0, slots := 0, locals := 0 } : Room).cells ({ frames := 0, cells := 0, slots := 0, locals := 0 } : Room).slots) (s₁.setTop (entryFrame m #[(.ref o), (.int q), (.double idf)] 8))
  refine Ends.pre (fun t k => castTop (ef12 m o q idf) k) ?_
  show Ends p e below _ (s₁.setTop (mkF m 0 #[.val (.ref o), .val (.int q), .val (.double idf), .second, .unset, .unset, .unset, .unset] []))
  refine Ends.pre (fun tt kt => XS.iloadN X0.here hx rfl (hb hby d12_0) rfl kt) ?_
  show Ends p e below _ (s₁.setTop (mkF m 1 #[.val (.ref o), .val (.int q), .val (.double idf), .second, .unset, .unset, .unset, .unset] [(.int q)]))
  refine Ends.pre (fun tt kt => XS.i2dS X0.here hx rfl (v := (FP.i2d q)) (hb hby d12_1) rfl rfl kt) ?_
  show Ends p e below _ (s₁.setTop (mkF m 2 #[.val (.ref o), .val (.int q), .val (.double idf), .second, .unset, .unset, .unset, .unset] [(.double (FP.i2d q))]))
  refine Ends.pre (fun tt kt => XS.iloadN X0.here hx rfl (hb hby d12_2) rfl kt) ?_
  show Ends p e below _ (s₁.setTop (mkF m 3 #[.val (.ref o), .val (.int q), .val (.double idf), .second, .unset, .unset, .unset, .unset] [(.int q), (.double (FP.i2d q))]))
  refine Ends.pre (fun tt kt => XS.iconst X0.here hx rfl (hb hby d12_3) kt) ?_
  show Ends p e below _ (s₁.setTop (mkF m 4 #[.val (.ref o), .val (.int q), .val (.double idf), .second, .unset, .unset, .unset, .unset] [(.int (1 : Int32)), (.int q), (.double (FP.i2d q))]))
  refine Ends.pre (fun tt kt => XS.isub X0.here hx rfl (hb hby d12_4) rfl kt) ?_
  show Ends p e below _ (s₁.setTop (mkF m 5 #[.val (.ref o), .val (.int q), .val (.double idf), .second, .unset, .unset, .unset, .unset] [(.int (q - (1 : Int32))), (.double (FP.i2d q))]))
  refine Ends.pre (fun tt kt => XS.i2dS X0.here hx rfl (v := (FP.i2d (q - (1 : Int32)))) (hb hby d12_5) rfl rfl kt) ?_
  show Ends p e below _ (s₁.setTop (mkF m 6 #[.val (.ref o), .val (.int q), .val (.double idf), .second, .unset, .unset, .unset, .unset] [(.double (FP.i2d (q - (1 : Int32)))), (.double (FP.i2d q))]))
  refine Ends.pre (fun tt kt => XS.dmulS X0.here hx rfl (v := (FP.dmul (FP.i2d q) (FP.i2d (q - (1 : Int32))))) (hb hby d12_6) rfl hok.1 rfl kt) ?_
  show Ends p e below _ (s₁.setTop (mkF m 7 #[.val (.ref o), .val (.int q), .val (.double idf), .second, .unset, .unset, .unset, .unset] [(.double (FP.dmul (FP.i2d q) (FP.i2d (q - (1 : Int32)))))]))
  refine Ends.pre (fun tt kt => XS.aloadN X0.here hx rfl (hb hby d12_7) rfl rfl kt) ?_
  show Ends p e below _ (s₁.setTop (mkF m 8 #[.val (.ref o), .val (.int q), .val (.double idf), .second, .unset, .unset, .unset, .unset] [(.ref o), (.double (FP.dmul (FP.i2d q) (FP.i2d (q - (1 : Int32)))))]))
  obtain ⟨T28, X28, e28, st28⟩ := getF X0 hx hZ hown (host := "") (Or.inl (hw _ (List.mem_of_getElem? (i := 85) rfl))) Via.refl e0 F (g := (mkF m 8 #[.val (.ref o), .val (.int q), .val (.double idf), .second, .unset, .unset, .unset, .unset] [(.ref o), (.double (FP.dmul (FP.i2d q) (FP.i2d (q - (1 : Int32)))))])) rfl rfl (hb hby d12_8)
  refine Ends.pre (fun tt kt => st28 _ kt) ?_
  show Ends p e below _ (T28.setTop (mkF m 11 #[.val (.ref o), .val (.int q), .val (.double idf), .second, .unset, .unset, .unset, .unset] [(.double k3), (.double (FP.dmul (FP.i2d q) (FP.i2d (q - (1 : Int32)))))]))
  refine Ends.pre (fun tt kt => XS.iloadN X28.here hx rfl (hb hby d12_11) rfl kt) ?_
  show Ends p e below _ (T28.setTop (mkF m 12 #[.val (.ref o), .val (.int q), .val (.double idf), .second, .unset, .unset, .unset, .unset] [(.int q), (.double k3), (.double (FP.dmul (FP.i2d q) (FP.i2d (q - (1 : Int32)))))]))
  refine Ends.pre (fun tt kt => XS.i2dS X28.here hx rfl (v := (FP.i2d q)) (hb hby d12_12) rfl rfl kt) ?_
  show Ends p e below _ (T28.setTop (mkF m 13 #[.val (.ref o), .val (.int q), .val (.double idf), .second, .unset, .unset, .unset, .unset] [(.double (FP.i2d q)), (.double k3), (.double (FP.dmul (FP.i2d q) (FP.i2d (q - (1 : Int32)))))]))
  refine Ends.pre (fun tt kt => XS.daddS X28.here hx rfl (v := (FP.dadd k3 (FP.i2d q))) (hb hby d12_13) rfl hok.2.1 rfl kt) ?_
  show Ends p e below _ (T28.setTop (mkF m 14 #[.val (.ref o), .val (.int q), .val (.double idf), .second, .unset, .unset, .unset, .unset] [(.double (FP.dadd k3 (FP.i2d q))), (.double (FP.dmul (FP.i2d q) (FP.i2d (q - (1 : Int32)))))]))
  refine Ends.pre (fun tt kt => XS.ddivS X28.here hx rfl (v := (FP.ddiv (FP.dmul (FP.i2d q) (FP.i2d (q - (1 : Int32)))) (FP.dadd k3 (FP.i2d q)))) (hb hby d12_14) rfl hok.2.2.1 rfl kt) ?_
  show Ends p e below _ (T28.setTop (mkF m 15 #[.val (.ref o), .val (.int q), .val (.double idf), .second, .unset, .unset, .unset, .unset] [(.double (FP.ddiv (FP.dmul (FP.i2d q) (FP.i2d (q - (1 : Int32)))) (FP.dadd k3 (FP.i2d q))))]))
  refine Ends.pre (fun tt kt => XS.dstore X28.here hx rfl (hb hby d12_15) rfl (l' := #[.val (.ref o), .val (.int q), .val (.double idf), .second, .val (.double (FP.ddiv (FP.dmul (FP.i2d q) (FP.i2d (q - (1 : Int32)))) (FP.dadd k3 (FP.i2d q)))), .second, .unset, .unset]) rfl kt) ?_
  show Ends p e below _ (T28.setTop (mkF m 17 #[.val (.ref o), .val (.int q), .val (.double idf), .second, .val (.double (FP.ddiv (FP.dmul (FP.i2d q) (FP.i2d (q - (1 : Int32)))) (FP.dadd k3 (FP.i2d q)))), .second, .unset, .unset] []))
  refine Ends.pre (fun tt kt => XS.iloadN X28.here hx rfl (hb hby d12_17) rfl kt) ?_
  show Ends p e below _ (T28.setTop (mkF m 18 #[.val (.ref o), .val (.int q), .val (.double idf), .second, .val (.double (FP.ddiv (FP.dmul (FP.i2d q) (FP.i2d (q - (1 : Int32)))) (FP.dadd k3 (FP.i2d q)))), .second, .unset, .unset] [(.int q)]))
  refine Ends.pre (fun tt kt => XS.i2dS X28.here hx rfl (v := (FP.i2d q)) (hb hby d12_18) rfl rfl kt) ?_
  show Ends p e below _ (T28.setTop (mkF m 19 #[.val (.ref o), .val (.int q), .val (.double idf), .second, .val (.double (FP.ddiv (FP.dmul (FP.i2d q) (FP.i2d (q - (1 : Int32)))) (FP.dadd k3 (FP.i2d q)))), .second, .unset, .unset] [(.double (FP.i2d q))]))
  refine Ends.pre (fun tt kt => XS.dload X28.here hx rfl (hb hby d12_19) rfl kt) ?_
  show Ends p e below _ (T28.setTop (mkF m 21 #[.val (.ref o), .val (.int q), .val (.double idf), .second, .val (.double (FP.ddiv (FP.dmul (FP.i2d q) (FP.i2d (q - (1 : Int32)))) (FP.dadd k3 (FP.i2d q)))), .second, .unset, .unset] [(.double (FP.ddiv (FP.dmul (FP.i2d q) (FP.i2d (q - (1 : Int32)))) (FP.dadd k3 (FP.i2d q)))), (.double (FP.i2d q))]))
  refine Ends.pre (fun tt kt => XS.dsubS X28.here hx rfl (v := (FP.dsub (FP.i2d q) (FP.ddiv (FP.dmul (FP.i2d q) (FP.i2d (q - (1 : Int32)))) (FP.dadd k3 (FP.i2d q))))) (hb hby d12_21) rfl hok.2.2.2.1 rfl kt) ?_
  show Ends p e below _ (T28.setTop (mkF m 22 #[.val (.ref o), .val (.int q), .val (.double idf), .second, .val (.double (FP.ddiv (FP.dmul (FP.i2d q) (FP.i2d (q - (1 : Int32)))) (FP.dadd k3 (FP.i2d q)))), .second, .unset, .unset] [(.double (FP.dsub (FP.i2d q) (FP.ddiv (FP.dmul (FP.i2d q) (FP.i2d (q - (1 : Int32)))) (FP.dadd k3 (FP.i2d q)))))]))
  refine Ends.pre (fun tt kt => XS.dstore X28.here hx rfl (hb hby d12_22) rfl (l' := #[.val (.ref o), .val (.int q), .val (.double idf), .second, .val (.double (FP.ddiv (FP.dmul (FP.i2d q) (FP.i2d (q - (1 : Int32)))) (FP.dadd k3 (FP.i2d q)))), .second, .val (.double (FP.dsub (FP.i2d q) (FP.ddiv (FP.dmul (FP.i2d q) (FP.i2d (q - (1 : Int32)))) (FP.dadd k3 (FP.i2d q))))), .second]) rfl kt) ?_
  show Ends p e below _ (T28.setTop (mkF m 24 #[.val (.ref o), .val (.int q), .val (.double idf), .second, .val (.double (FP.ddiv (FP.dmul (FP.i2d q) (FP.i2d (q - (1 : Int32)))) (FP.dadd k3 (FP.i2d q)))), .second, .val (.double (FP.dsub (FP.i2d q) (FP.ddiv (FP.dmul (FP.i2d q) (FP.i2d (q - (1 : Int32)))) (FP.dadd k3 (FP.i2d q))))), .second] []))
  refine Ends.pre (fun tt kt => XS.dload X28.here hx rfl (hb hby d12_24) rfl kt) ?_
  show Ends p e below _ (T28.setTop (mkF m 26 #[.val (.ref o), .val (.int q), .val (.double idf), .second, .val (.double (FP.ddiv (FP.dmul (FP.i2d q) (FP.i2d (q - (1 : Int32)))) (FP.dadd k3 (FP.i2d q)))), .second, .val (.double (FP.dsub (FP.i2d q) (FP.ddiv (FP.dmul (FP.i2d q) (FP.i2d (q - (1 : Int32)))) (FP.dadd k3 (FP.i2d q))))), .second] [(.double (FP.dsub (FP.i2d q) (FP.ddiv (FP.dmul (FP.i2d q) (FP.i2d (q - (1 : Int32)))) (FP.dadd k3 (FP.i2d q)))))]))
  refine Ends.pre (fun tt kt => XS.dloadN X28.here hx rfl (hb hby d12_26) rfl kt) ?_
  show Ends p e below _ (T28.setTop (mkF m 27 #[.val (.ref o), .val (.int q), .val (.double idf), .second, .val (.double (FP.ddiv (FP.dmul (FP.i2d q) (FP.i2d (q - (1 : Int32)))) (FP.dadd k3 (FP.i2d q)))), .second, .val (.double (FP.dsub (FP.i2d q) (FP.ddiv (FP.dmul (FP.i2d q) (FP.i2d (q - (1 : Int32)))) (FP.dadd k3 (FP.i2d q))))), .second] [(.double idf), (.double (FP.dsub (FP.i2d q) (FP.ddiv (FP.dmul (FP.i2d q) (FP.i2d (q - (1 : Int32)))) (FP.dadd k3 (FP.i2d q)))))]))
  refine Ends.pre (fun tt kt => XS.dmulS X28.here hx rfl (v := (FP.dmul (FP.dsub (FP.i2d q) (FP.ddiv (FP.dmul (FP.i2d q) (FP.i2d (q - (1 : Int32)))) (FP.dadd k3 (FP.i2d q)))) idf)) (hb hby d12_27) rfl hok.2.2.2.2 rfl kt) ?_
  show Ends p e below _ (T28.setTop (mkF m 28 #[.val (.ref o), .val (.int q), .val (.double idf), .second, .val (.double (FP.ddiv (FP.dmul (FP.i2d q) (FP.i2d (q - (1 : Int32)))) (FP.dadd k3 (FP.i2d q)))), .second, .val (.double (FP.dsub (FP.i2d q) (FP.ddiv (FP.dmul (FP.i2d q) (FP.i2d (q - (1 : Int32)))) (FP.dadd k3 (FP.i2d q))))), .second] [(.double (FP.dmul (FP.dsub (FP.i2d q) (FP.ddiv (FP.dmul (FP.i2d q) (FP.i2d (q - (1 : Int32)))) (FP.dadd k3 (FP.i2d q)))) idf))]))
  obtain ⟨fs, hr, hrun, hended, hW, hsame⟩ := X28.leave (v := some (.double (FP.dmul (FP.dsub (FP.i2d q) (FP.ddiv (FP.dmul (FP.i2d q) (FP.i2d (q - (1 : Int32)))) (FP.dadd k3 (FP.i2d q)))) idf))) (fun h => by rw [Bd.returns] at h; cases h)
  refine ⟨_, _, retOut X28 hx Bd.returns rfl (Or.inr (Or.inr (Or.inl ⟨rfl, rfl, _, rfl⟩))) (hb hby d12_28) hr, hrun, hended, _, _, rfl, ?_, ⟨_, rfl⟩, hW, hsame.mono (by decide) (by decide)⟩
  show Q12 Z _ _ _ _ h0 n0 _ T28.heap _
  rw [e28]
  exact ⟨rfl, N0, rfl⟩
theorem own_le_trans {a b c : UInt64} (h : LE a b) (h' : LE b c) : LE a c := ⟨h.1, h'.2.1, Int.le_trans h.2.2 h'.2.2⟩
theorem own_sm {q sm : Int32} (h : sm = ((q &&& (67108863 : Int32)) + (1 : Int32))) : ∃ n : Nat, sm.toInt = n ∧ 1 ≤ n ∧ n ≤ 2 ^ 26 := by
  have c1 := c_mask q 67108863 26 (by decide) (by decide)
  have c := c_iadd (q &&& 67108863) 1
  have r := rng32 sm
  rw [← h, c1, show (1 : Int32).toInt = 1 from by decide] at c
  exact ⟨sm.toInt.toNat, by omega, by omega, by omega⟩
theorem own_wh {q w : Int32} (h : w = (if (1 : Int32) < q then q else (1 : Int32))) : ∃ u : Nat, w.toInt = u ∧ 1 ≤ u := by
  have r := rng32 w
  have k : 1 ≤ w.toInt := by
    rw [h]; split
    · rename_i g; rw [Int32.lt_iff_toInt_lt, show (1 : Int32).toInt = 1 from by decide] at g; omega
    · decide
  exact ⟨w.toInt.toNat, by omega, by omega⟩
theorem own_q2 {s q : Int32} {n : Nat} (hn : s.toInt = n) (hn2 : n ≤ 2 ^ 26) (h : q = (if (2 : Int32) < s then s else (2 : Int32))) : ∃ v : Nat, q.toInt = v ∧ 2 ≤ v ∧ v ≤ 2 ^ 26 := by
  have k : 2 ≤ q.toInt ∧ q.toInt ≤ 2 ^ 26 := by
    rw [h]; split
    · rename_i g; rw [Int32.lt_iff_toInt_lt, show (2 : Int32).toInt = 2 from by decide] at g; omega
    · decide
  exact ⟨q.toInt.toNat, by omega, by omega, by omega⟩
theorem own_k {x A : Int32} (h : A = (x &&& (2147483647 : Int32))) : ∃ a : Nat, A.toInt = a ∧ a < 2 ^ 31 := by
  have c := c_mask x 2147483647 31 (by decide) (by decide)
  rw [← h] at c
  exact ⟨A.toInt.toNat, by omega, by omega⟩
theorem own_sum {A B : Int32} {a b : Nat} (hA : A.toInt = a) (hB : B.toInt = b) (ha : a < 2 ^ 31) (hb : b < 2 ^ 31) : FP.dadd (FP.l2d (A.toInt64)) (FP.l2d (B.toInt64)) = FP.l2d (A.toInt64 + B.toInt64) ∧ (A.toInt64 + B.toInt64).toInt = ((a + b : Nat) : Int) := by
  have c := c_ladd A.toInt64 B.toInt64
  have r := rng64 (A.toInt64 + B.toInt64)
  rw [c_i2l, c_i2l, hA, hB] at c
  exact ⟨Jvm.FP.Core.dadd_l2d ⟨by rw [c_i2l]; omega, by rw [c_i2l]; omega⟩ ⟨by rw [c_i2l]; omega, by rw [c_i2l]; omega⟩, by omega⟩
theorem own_n1 {s : Int32} {n : Nat} (h : s.toInt = n) (h1 : s = (1 : Int32)) : n = 1 := by
  rw [h1, show (1 : Int32).toInt = 1 from by decide] at h; omega
theorem pd0_0 : parseMethodDescriptor "(II)I" = some ⟨[.int, .int], some .int⟩ := by decide +kernel
theorem pd0_1 : parseMethodDescriptor "(D)Lcom/example/bare_ranker/bareranker/search/Bm25;" = some ⟨[.double], some (.object "com/example/bare_ranker/bareranker/search/Bm25")⟩ := by decide +kernel
theorem pd0_2 : parseMethodDescriptor "(ID)D" = some ⟨[.int, .double], some .double⟩ := by decide +kernel
theorem pn0 : plainName "com/example/bare_ranker/bareranker/search/Bm25QueryWeightPinLaw" = true := by first | (simp [plainName, overriddenIn]; done) | decide +kernel
theorem ef0 (m : MethodId) (x0 : Int32) (x1 : Int32) (x2 : Int32) (x3 : Int32) (x4 : Int32) : entryFrame m #[(.int x0), (.int x1), (.int x2), (.int x3), (.int x4)] maxLocals = mkF m 0 #[.val (.int x0), .val (.int x1), .val (.int x2), .val (.int x3), .val (.int x4), .unset, .unset, .unset, .unset, .unset, .unset, .unset, .unset, .unset, .unset, .unset, .unset, .unset, .unset, .unset, .unset, .unset, .unset] [] := by first | (simp [entryFrame, mkF, argsToLocals, Value.category, maxLocals]; done) | rfl
def Q0 (Z : State) (qR : Int32) (iR : Int32) (kR : Int32) (kS : Int32) (md : Int32) (am : Addr) (an : Addr) (ai : Addr) (aL : Addr) (aP : Addr) (aA : Addr) (aF : Addr) (h0 : Heap) (n0 : Nat) (v : Option Value) (h : Heap) (L : List Loc) : Prop := v = some (.int 1) ∧ Fr n0 L
set_option maxRecDepth 65536 in
set_option maxHeartbeats 40000000 in
theorem rm0 (l : Launch) (Z : State) (a0 : Array Value) (hw : ∀ d ∈ tables_1, d.before a0 Z = true) (ws : List Jvm.Cond) (qR : Int32) (iR : Int32) (kR : Int32) (kS : Int32) (md : Int32) (am : Addr) (an : Addr) (ai : Addr) (aL : Addr) (aP : Addr) (aA : Addr) (aF : Addr) (h0 : Heap) (n0 : Nat) (Z0 : n0 ≤ h0.size) (E_am : Exa Z h0 am "com/example/bare_ranker/bareranker/search/Model") (E_an : Exa Z h0 an "com/example/bare_ranker/bareranker/search/LengthNorm") (E_ai : Exa Z h0 ai "com/example/bare_ranker/bareranker/search/Idf") (SL : Sta Z h0 "com/example/bare_ranker/bareranker/search/Model" "BM25L" "Lcom/example/bare_ranker/bareranker/search/Model;" (.ref aL)) (SP : Sta Z h0 "com/example/bare_ranker/bareranker/search/Model" "BM25_PLUS" "Lcom/example/bare_ranker/bareranker/search/Model;" (.ref aP)) (SA : Sta Z h0 "com/example/bare_ranker/bareranker/search/Model" "BM25_ADPT" "Lcom/example/bare_ranker/bareranker/search/Model;" (.ref aA)) (SF : Sta Z h0 "com/example/bare_ranker/bareranker/search/Model" "BM25F" "Lcom/example/bare_ranker/bareranker/search/Model;" (.ref aF)) (SV : Sta Z h0 "com/example/bare_ranker/bareranker/search/LengthNorm" "PIVOTED" "Lcom/example/bare_ranker/bareranker/search/LengthNorm;" (.ref an)) (SB : Sta Z h0 "com/example/bare_ranker/bareranker/search/Model" "BM25" "Lcom/example/bare_ranker/bareranker/search/Model;" (.ref am)) (SI : Sta Z h0 "com/example/bare_ranker/bareranker/search/Idf" "LOG1P" "Lcom/example/bare_ranker/bareranker/search/Idf;" (.ref ai)) (n1 : am ≠ aL) (n2 : am ≠ aP) (n3 : am ≠ aA) (n4 : am ≠ aF) :
    MetFree l x (head1 (Jvm.Cond.code x code maxLocals ret :: ws) room_1) (fun aa U => aa = #[(.int qR), (.int iR), (.int kR), (.int kS), (.int md)] ∧ Z.Warmed39 U.vm ∧ U.heap = h0) (fun _ _ _ _ _ => True) (fun _ UU oo UU' => ∃ vv LL, oo = .returned vv ∧ Q0 Z qR iR kR kS md am an ai aL aP aA aF h0 n0 vv UU'.heap LL ∧ FrameEnd UU oo UU' LL room_1.cells room_1.slots) := by
  refine MetFree.of_bodySF (plainFor_of_name pn0) hisR ?_
  intro p e s m args below meth c s₁ Bd hml0 hP hK
  obtain ⟨rfl, hZ, hh⟩ := hP
  have hx := Bd.exec
  have hby := Bd.bytes
  have hml : c.maxLocals = 23 := hml0
  have hown : s.vm.findClass "com/example/bare_ranker/bareranker/search/Bm25QueryWeightPinLaw" = some m.cls := findClass_of_methodNamed Bd.named
  have hnm := (name_of_methodNamed Bd.named Bd.method).1
  have X0 : Stand p l e room_1 s m #[(.int qR), (.int iR), (.int kR), (.int kS), (.int md)] below meth c s₁ [] 0 0 := Stand.of_body Bd
  have e0 : s₁.heap = h0 := by rw [← hh, Bd.state]; rfl
  have N0 := Fr.nil n0
  show Ends p e below (fun tt oo => ∃ vv LL, oo = .returned vv ∧ Q0 Z qR iR kR kS md am an ai aL aP aA aF h0 n0 vv tt.heap LL ∧ FrameEnd s oo tt LL room_1.cells room_1.slots) (s₁.setTop (entryFrame m #[(.int qR), (.int iR), (.int kR), (.int kS), (.int md)] maxLocals))
  refine Ends.pre (fun t k => castTop (ef0 m qR iR kR kS md) k) ?_
  show Ends p e below _ (s₁.setTop (mkF m 0 #[.val (.int qR), .val (.int iR), .val (.int kR), .val (.int kS), .val (.int md), .unset, .unset, .unset, .unset, .unset, .unset, .unset, .unset, .unset, .unset, .unset, .unset, .unset, .unset, .unset, .unset, .unset, .unset] []))
  have hi : Jvm.Free.Fl.Fin64 (FP.i2d iR) := Jvm.Free.Fl.i2d_fin iR
  refine Ends.pre (fun tt kt => XS.iloadN X0.here hx rfl (hb hby at_0) rfl kt) ?_
  show Ends p e below _ (s₁.setTop (mkF m 1 #[.val (.int qR), .val (.int iR), .val (.int kR), .val (.int kS), .val (.int md), .unset, .unset, .unset, .unset, .unset, .unset, .unset, .unset, .unset, .unset, .unset, .unset, .unset, .unset, .unset, .unset, .unset, .unset] [(.int iR)]))
  refine Ends.pre (fun tt kt => XS.i2dS X0.here hx rfl (v := (FP.i2d iR)) (hb hby at_1) rfl rfl kt) ?_
  show Ends p e below _ (s₁.setTop (mkF m 2 #[.val (.int qR), .val (.int iR), .val (.int kR), .val (.int kS), .val (.int md), .unset, .unset, .unset, .unset, .unset, .unset, .unset, .unset, .unset, .unset, .unset, .unset, .unset, .unset, .unset, .unset, .unset, .unset] [(.double (FP.i2d iR))]))
  refine Ends.pre (fun tt kt => XS.dstore X0.here hx rfl (hb hby at_2) rfl (l' := #[.val (.int qR), .val (.int iR), .val (.int kR), .val (.int kS), .val (.int md), .val (.double (FP.i2d iR)), .second, .unset, .unset, .unset, .unset, .unset, .unset, .unset, .unset, .unset, .unset, .unset, .unset, .unset, .unset, .unset, .unset]) rfl kt) ?_
  show Ends p e below _ (s₁.setTop (mkF m 4 #[.val (.int qR), .val (.int iR), .val (.int kR), .val (.int kS), .val (.int md), .val (.double (FP.i2d iR)), .second, .unset, .unset, .unset, .unset, .unset, .unset, .unset, .unset, .unset, .unset, .unset, .unset, .unset, .unset, .unset, .unset] []))
  refine Ends.pre (fun tt kt => XS.iloadN X0.here hx rfl (hb hby at_4) rfl kt) ?_
  show Ends p e below _ (s₁.setTop (mkF m 5 #[.val (.int qR), .val (.int iR), .val (.int kR), .val (.int kS), .val (.int md), .val (.double (FP.i2d iR)), .second, .unset, .unset, .unset, .unset, .unset, .unset, .unset, .unset, .unset, .unset, .unset, .unset, .unset, .unset, .unset, .unset] [(.int qR)]))
  refine Ends.pre (fun tt kt => X0.ldcInt hx hown (mvT hZ (hw _ (List.mem_of_getElem? (i := 0) rfl))) (g := (mkF m 5 #[.val (.int qR), .val (.int iR), .val (.int kR), .val (.int kS), .val (.int md), .val (.double (FP.i2d iR)), .second, .unset, .unset, .unset, .unset, .unset, .unset, .unset, .unset, .unset, .unset, .unset, .unset, .unset, .unset, .unset, .unset] [(.int qR)])) rfl (hb hby at_5) _ kt) ?_
  show Ends p e below _ (s₁.setTop (mkF m 7 #[.val (.int qR), .val (.int iR), .val (.int kR), .val (.int kS), .val (.int md), .val (.double (FP.i2d iR)), .second, .unset, .unset, .unset, .unset, .unset, .unset, .unset, .unset, .unset, .unset, .unset, .unset, .unset, .unset, .unset, .unset] [(.int (67108863 : Int32)), (.int qR)]))
  refine Ends.pre (fun tt kt => XS.iand X0.here hx rfl (hb hby at_7) rfl kt) ?_
  show Ends p e below _ (s₁.setTop (mkF m 8 #[.val (.int qR), .val (.int iR), .val (.int kR), .val (.int kS), .val (.int md), .val (.double (FP.i2d iR)), .second, .unset, .unset, .unset, .unset, .unset, .unset, .unset, .unset, .unset, .unset, .unset, .unset, .unset, .unset, .unset, .unset] [(.int (qR &&& (67108863 : Int32)))]))
  refine Ends.pre (fun tt kt => XS.iconst X0.here hx rfl (hb hby at_8) kt) ?_
  show Ends p e below _ (s₁.setTop (mkF m 9 #[.val (.int qR), .val (.int iR), .val (.int kR), .val (.int kS), .val (.int md), .val (.double (FP.i2d iR)), .second, .unset, .unset, .unset, .unset, .unset, .unset, .unset, .unset, .unset, .unset, .unset, .unset, .unset, .unset, .unset, .unset] [(.int (1 : Int32)), (.int (qR &&& (67108863 : Int32)))]))
  refine Ends.pre (fun tt kt => XS.iadd X0.here hx rfl (hb hby at_9) rfl kt) ?_
  show Ends p e below _ (s₁.setTop (mkF m 10 #[.val (.int qR), .val (.int iR), .val (.int kR), .val (.int kS), .val (.int md), .val (.double (FP.i2d iR)), .second, .unset, .unset, .unset, .unset, .unset, .unset, .unset, .unset, .unset, .unset, .unset, .unset, .unset, .unset, .unset, .unset] [(.int ((qR &&& (67108863 : Int32)) + (1 : Int32)))]))
  obtain ⟨sm, hsm⟩ : ∃ z, z = ((qR &&& (67108863 : Int32)) + (1 : Int32)) := ⟨_, rfl⟩
  rw [← hsm]
  show Ends p e below _ (s₁.setTop (mkF m 10 #[.val (.int qR), .val (.int iR), .val (.int kR), .val (.int kS), .val (.int md), .val (.double (FP.i2d iR)), .second, .unset, .unset, .unset, .unset, .unset, .unset, .unset, .unset, .unset, .unset, .unset, .unset, .unset, .unset, .unset, .unset] [(.int sm)]))
  obtain ⟨n, hn, hn1, hn2⟩ := own_sm hsm
  refine Ends.pre (fun tt kt => XS.istore X0.here hx rfl (hb hby at_10) rfl (l' := #[.val (.int qR), .val (.int iR), .val (.int kR), .val (.int kS), .val (.int md), .val (.double (FP.i2d iR)), .second, .val (.int sm), .unset, .unset, .unset, .unset, .unset, .unset, .unset, .unset, .unset, .unset, .unset, .unset, .unset, .unset, .unset]) rfl kt) ?_
  show Ends p e below _ (s₁.setTop (mkF m 12 #[.val (.int qR), .val (.int iR), .val (.int kR), .val (.int kS), .val (.int md), .val (.double (FP.i2d iR)), .second, .val (.int sm), .unset, .unset, .unset, .unset, .unset, .unset, .unset, .unset, .unset, .unset, .unset, .unset, .unset, .unset, .unset] []))
  refine Ends.pre (fun tt kt => XS.iconst X0.here hx rfl (hb hby at_12) kt) ?_
  show Ends p e below _ (s₁.setTop (mkF m 13 #[.val (.int qR), .val (.int iR), .val (.int kR), .val (.int kS), .val (.int md), .val (.double (FP.i2d iR)), .second, .val (.int sm), .unset, .unset, .unset, .unset, .unset, .unset, .unset, .unset, .unset, .unset, .unset, .unset, .unset, .unset, .unset] [(.int (1 : Int32))]))
  refine Ends.pre (fun tt kt => XS.iloadN X0.here hx rfl (hb hby at_13) rfl kt) ?_
  show Ends p e below _ (s₁.setTop (mkF m 14 #[.val (.int qR), .val (.int iR), .val (.int kR), .val (.int kS), .val (.int md), .val (.double (FP.i2d iR)), .second, .val (.int sm), .unset, .unset, .unset, .unset, .unset, .unset, .unset, .unset, .unset, .unset, .unset, .unset, .unset, .unset, .unset] [(.int qR), (.int (1 : Int32))]))
  refine Ends.pre (fun tt kt => X0.ldcInt hx hown (mvT hZ (hw _ (List.mem_of_getElem? (i := 1) rfl))) (g := (mkF m 14 #[.val (.int qR), .val (.int iR), .val (.int kR), .val (.int kS), .val (.int md), .val (.double (FP.i2d iR)), .second, .val (.int sm), .unset, .unset, .unset, .unset, .unset, .unset, .unset, .unset, .unset, .unset, .unset, .unset, .unset, .unset, .unset] [(.int qR), (.int (1 : Int32))])) rfl (hb hby at_14) _ kt) ?_
  show Ends p e below _ (s₁.setTop (mkF m 16 #[.val (.int qR), .val (.int iR), .val (.int kR), .val (.int kS), .val (.int md), .val (.double (FP.i2d iR)), .second, .val (.int sm), .unset, .unset, .unset, .unset, .unset, .unset, .unset, .unset, .unset, .unset, .unset, .unset, .unset, .unset, .unset] [(.int (2147483647 : Int32)), (.int qR), (.int (1 : Int32))]))
  refine Ends.pre (fun tt kt => XS.iand X0.here hx rfl (hb hby at_16) rfl kt) ?_
  show Ends p e below _ (s₁.setTop (mkF m 17 #[.val (.int qR), .val (.int iR), .val (.int kR), .val (.int kS), .val (.int md), .val (.double (FP.i2d iR)), .second, .val (.int sm), .unset, .unset, .unset, .unset, .unset, .unset, .unset, .unset, .unset, .unset, .unset, .unset, .unset, .unset, .unset] [(.int (qR &&& (2147483647 : Int32))), (.int (1 : Int32))]))
  obtain ⟨_, _, ⟨T29, L29, k29, n29⟩, -, X29, ⟨Lc29, hQ29, l29, y29, z29⟩, st29⟩ := Jvm.LawKit.callS X0 hx (y := (⟨"java/lang/Math", "max", "(II)I"⟩ : MethodName)) hown (mvT hZ (hw _ (List.mem_of_getElem? (i := 2) rfl))) (mvT hZ (hw _ (List.mem_of_getElem? (i := 3) rfl))) (mvT hZ (hw _ (List.mem_of_getElem? (i := 4) rfl))) (mvT hZ (hw _ (List.mem_of_getElem? (i := 5) rfl))) (by decide) (backOf (W := 0) (rm1 l Z a0 hw [] (1 : Int32) (qR &&& (2147483647 : Int32)) h0 n0 Z0) hZ (hw _ (List.mem_of_getElem? (i := 5) rfl)) (hw _ (List.mem_of_getElem? (i := 4) rfl)) (by decide) (by decide)) (g := (mkF m 17 #[.val (.int qR), .val (.int iR), .val (.int kR), .val (.int kS), .val (.int md), .val (.double (FP.i2d iR)), .second, .val (.int sm), .unset, .unset, .unset, .unset, .unset, .unset, .unset, .unset, .unset, .unset, .unset, .unset, .unset, .unset, .unset] [(.int (qR &&& (2147483647 : Int32))), (.int (1 : Int32))])) rfl (by rw [hml]; rfl) (argsL := [(.int (1 : Int32)), (.int (qR &&& (2147483647 : Int32)))]) (rest := []) (lenOf pd0_0 rfl) rfl (by show 2 * 0 + _ ≤ _; exact Nat.le_of_eq rfl) (hb hby at_17) (fun _ _ => ⟨rfl, e0, (show (0 : Nat) + (0 : Nat) ≤ _ from by decide), (show (0 : Nat) + (0 : Nat) ≤ _ from by decide)⟩)
  dsimp only [Pt.U, Pt.locs, Pt.cells, Pt.slots] at X29 l29 y29 z29 st29 hQ29
  subst l29 y29 z29
  obtain ⟨rfl, N29q, e29⟩ := hQ29
  have N29 := Fr.app N0 N29q
  refine Ends.pre (fun tt kt => st29 _ kt) ?_
  show Ends p e below _ (T29.setTop (mkF m 20 #[.val (.int qR), .val (.int iR), .val (.int kR), .val (.int kS), .val (.int md), .val (.double (FP.i2d iR)), .second, .val (.int sm), .unset, .unset, .unset, .unset, .unset, .unset, .unset, .unset, .unset, .unset, .unset, .unset, .unset, .unset, .unset] [(.int (if (1 : Int32) < (qR &&& (2147483647 : Int32)) then (qR &&& (2147483647 : Int32)) else (1 : Int32)))]))
  obtain ⟨wh, hwh⟩ : ∃ z, z = (if (1 : Int32) < (qR &&& (2147483647 : Int32)) then (qR &&& (2147483647 : Int32)) else (1 : Int32)) := ⟨_, rfl⟩
  rw [← hwh]
  show Ends p e below _ (T29.setTop (mkF m 20 #[.val (.int qR), .val (.int iR), .val (.int kR), .val (.int kS), .val (.int md), .val (.double (FP.i2d iR)), .second, .val (.int sm), .unset, .unset, .unset, .unset, .unset, .unset, .unset, .unset, .unset, .unset, .unset, .unset, .unset, .unset, .unset] [(.int wh)]))
  obtain ⟨u, hu, hu1⟩ := own_wh hwh
  refine Ends.pre (fun tt kt => XS.istore X29.here hx rfl (hb hby at_20) rfl (l' := #[.val (.int qR), .val (.int iR), .val (.int kR), .val (.int kS), .val (.int md), .val (.double (FP.i2d iR)), .second, .val (.int sm), .val (.int wh), .unset, .unset, .unset, .unset, .unset, .unset, .unset, .unset, .unset, .unset, .unset, .unset, .unset, .unset]) rfl kt) ?_
  show Ends p e below _ (T29.setTop (mkF m 22 #[.val (.int qR), .val (.int iR), .val (.int kR), .val (.int kS), .val (.int md), .val (.double (FP.i2d iR)), .second, .val (.int sm), .val (.int wh), .unset, .unset, .unset, .unset, .unset, .unset, .unset, .unset, .unset, .unset, .unset, .unset, .unset, .unset] []))
  refine Ends.pre (fun tt kt => XS.iload X29.here hx rfl (hb hby at_22) rfl kt) ?_
  show Ends p e below _ (T29.setTop (mkF m 24 #[.val (.int qR), .val (.int iR), .val (.int kR), .val (.int kS), .val (.int md), .val (.double (FP.i2d iR)), .second, .val (.int sm), .val (.int wh), .unset, .unset, .unset, .unset, .unset, .unset, .unset, .unset, .unset, .unset, .unset, .unset, .unset, .unset] [(.int md)]))
  refine Ends.pre (fun tt kt => XS.bipush X29.here hx rfl (hb hby at_24) kt) ?_
  show Ends p e below _ (T29.setTop (mkF m 26 #[.val (.int qR), .val (.int iR), .val (.int kR), .val (.int kS), .val (.int md), .val (.double (FP.i2d iR)), .second, .val (.int sm), .val (.int wh), .unset, .unset, .unset, .unset, .unset, .unset, .unset, .unset, .unset, .unset, .unset, .unset, .unset, .unset] [(.int (7 : Int32)), (.int md)]))
  refine Ends.pre (fun tt kt => XS.iand X29.here hx rfl (hb hby at_26) rfl kt) ?_
  show Ends p e below _ (T29.setTop (mkF m 27 #[.val (.int qR), .val (.int iR), .val (.int kR), .val (.int kS), .val (.int md), .val (.double (FP.i2d iR)), .second, .val (.int sm), .val (.int wh), .unset, .unset, .unset, .unset, .unset, .unset, .unset, .unset, .unset, .unset, .unset, .unset, .unset, .unset] [(.int (md &&& (7 : Int32)))]))
  refine Ends.pre (fun tt kt => XS.istore X29.here hx rfl (hb hby at_27) rfl (l' := #[.val (.int qR), .val (.int iR), .val (.int kR), .val (.int kS), .val (.int md), .val (.double (FP.i2d iR)), .second, .val (.int sm), .val (.int wh), .val (.int (md &&& (7 : Int32))), .unset, .unset, .unset, .unset, .unset, .unset, .unset, .unset, .unset, .unset, .unset, .unset, .unset]) rfl kt) ?_
  show Ends p e below _ (T29.setTop (mkF m 29 #[.val (.int qR), .val (.int iR), .val (.int kR), .val (.int kS), .val (.int md), .val (.double (FP.i2d iR)), .second, .val (.int sm), .val (.int wh), .val (.int (md &&& (7 : Int32))), .unset, .unset, .unset, .unset, .unset, .unset, .unset, .unset, .unset, .unset, .unset, .unset, .unset] []))
  obtain ⟨mm, hmm⟩ : ∃ z, z = (md &&& (7 : Int32)) := ⟨_, rfl⟩
  rw [← hmm]
  show Ends p e below _ (T29.setTop (mkF m 29 #[.val (.int qR), .val (.int iR), .val (.int kR), .val (.int kS), .val (.int md), .val (.double (FP.i2d iR)), .second, .val (.int sm), .val (.int wh), .val (.int mm), .unset, .unset, .unset, .unset, .unset, .unset, .unset, .unset, .unset, .unset, .unset, .unset, .unset] []))
  refine Ends.pre (fun tt kt => XS.iload X29.here hx rfl (hb hby at_29) rfl kt) ?_
  show Ends p e below _ (T29.setTop (mkF m 31 #[.val (.int qR), .val (.int iR), .val (.int kR), .val (.int kS), .val (.int md), .val (.double (FP.i2d iR)), .second, .val (.int sm), .val (.int wh), .val (.int mm), .unset, .unset, .unset, .unset, .unset, .unset, .unset, .unset, .unset, .unset, .unset, .unset, .unset] [(.int mm)]))
  by_cases c0 : mm = (0 : Int32)
  ·
    refine Ends.pre (fun tt kt => XS.ifNo X29.here hx rfl (hb hby at_31) rfl ((if0 _ _).trans (teq c0).2) kt) ?_
    show Ends p e below _ (T29.setTop (mkF m 34 #[.val (.int qR), .val (.int iR), .val (.int kR), .val (.int kS), .val (.int md), .val (.double (FP.i2d iR)), .second, .val (.int sm), .val (.int wh), .val (.int mm), .unset, .unset, .unset, .unset, .unset, .unset, .unset, .unset, .unset, .unset, .unset, .unset, .unset] []))
    obtain ⟨ok, eq⟩ := own_mode0 hn hn1 hn2 hi
    refine Ends.pre (fun tt kt => XS.dconst0 X29.here hx rfl (hb hby at_34) rfl kt) ?_
    show Ends p e below _ (T29.setTop (mkF m 35 #[.val (.int qR), .val (.int iR), .val (.int kR), .val (.int kS), .val (.int md), .val (.double (FP.i2d iR)), .second, .val (.int sm), .val (.int wh), .val (.int mm), .unset, .unset, .unset, .unset, .unset, .unset, .unset, .unset, .unset, .unset, .unset, .unset, .unset] [(.double FP.dconst0)]))
    obtain ⟨_, _, ⟨T30, L30, k30, n30⟩, -, X30, ⟨Lc30, hQ30, l30, y30, z30⟩, st30⟩ := Jvm.LawKit.callS X29 hx (y := (⟨"com/example/bare_ranker/bareranker/search/Bm25QueryWeightPinLaw", "make", "(D)Lcom/example/bare_ranker/bareranker/search/Bm25;"⟩ : MethodName)) hown (mvT hZ (hw _ (List.mem_of_getElem? (i := 6) rfl))) (mvT hZ (hw _ (List.mem_of_getElem? (i := 7) rfl))) (mvT hZ (hw _ (List.mem_of_getElem? (i := 8) rfl))) (mvT hZ (hw _ (List.mem_of_getElem? (i := 9) rfl))) (by decide) (backOf (W := 0) (rm2 l Z a0 hw [] am an ai aL aP aA aF FP.dconst0 h0 n0 Z0 E_am E_an E_ai SL SP SA SF SV SB SI n1 n2 n3 n4 (by decide +kernel)) hZ (hw _ (List.mem_of_getElem? (i := 9) rfl)) (hw _ (List.mem_of_getElem? (i := 8) rfl)) (by decide) (by decide)) (g := (mkF m 35 #[.val (.int qR), .val (.int iR), .val (.int kR), .val (.int kS), .val (.int md), .val (.double (FP.i2d iR)), .second, .val (.int sm), .val (.int wh), .val (.int mm), .unset, .unset, .unset, .unset, .unset, .unset, .unset, .unset, .unset, .unset, .unset, .unset, .unset] [(.double FP.dconst0)])) rfl (by rw [hml]; rfl) (argsL := [(.double FP.dconst0)]) (rest := []) (lenOf pd0_1 rfl) rfl (by show 2 * 0 + _ ≤ _; exact Nat.le_of_eq rfl) (hb hby at_35) (fun _ _ => ⟨rfl, e29, (show (0 : Nat) + (1 : Nat) ≤ _ from by decide), (show (0 : Nat) + (7 : Nat) ≤ _ from by decide)⟩)
    dsimp only [Pt.U, Pt.locs, Pt.cells, Pt.slots] at X30 l30 y30 z30 st30 hQ30
    subst l30 y30 z30
    obtain ⟨rfl, N30q, K30, G30_0, G30_1⟩ := hQ30
    obtain ⟨o30, g30⟩ : ∃ z, z = h0.size := ⟨_, rfl⟩
    rw [← g30] at G30_0 G30_1 st30
    have E_am := E_am.keep K30
    have E_an := E_an.keep K30
    have E_ai := E_ai.keep K30
    have SL := own_sta_keep0 SL K30
    have SP := own_sta_keep0 SP K30
    have SA := own_sta_keep0 SA K30
    have SF := own_sta_keep0 SF K30
    have SV := own_sta_keep0 SV K30
    have SB := own_sta_keep0 SB K30
    have SI := own_sta_keep0 SI K30
    have Z0 := Nat.le_trans Z0 K30.1
    have E_o30 := G30_0
    have F_k3_o30 := G30_1
    have N30 := Fr.app N29 N30q
    refine Ends.pre (fun tt kt => st30 _ kt) ?_
    show Ends p e below _ (T30.setTop (mkF m 38 #[.val (.int qR), .val (.int iR), .val (.int kR), .val (.int kS), .val (.int md), .val (.double (FP.i2d iR)), .second, .val (.int sm), .val (.int wh), .val (.int mm), .unset, .unset, .unset, .unset, .unset, .unset, .unset, .unset, .unset, .unset, .unset, .unset, .unset] [(.ref o30)]))
    refine Ends.pre (fun tt kt => XS.astore X30.here hx rfl (hb hby at_38) rfl rfl (l' := #[.val (.int qR), .val (.int iR), .val (.int kR), .val (.int kS), .val (.int md), .val (.double (FP.i2d iR)), .second, .val (.int sm), .val (.int wh), .val (.int mm), .val (.ref o30), .unset, .unset, .unset, .unset, .unset, .unset, .unset, .unset, .unset, .unset, .unset, .unset]) rfl kt) ?_
    show Ends p e below _ (T30.setTop (mkF m 40 #[.val (.int qR), .val (.int iR), .val (.int kR), .val (.int kS), .val (.int md), .val (.double (FP.i2d iR)), .second, .val (.int sm), .val (.int wh), .val (.int mm), .val (.ref o30), .unset, .unset, .unset, .unset, .unset, .unset, .unset, .unset, .unset, .unset, .unset, .unset] []))
    refine Ends.pre (fun tt kt => XS.aload X30.here hx rfl (hb hby at_40) rfl rfl kt) ?_
    show Ends p e below _ (T30.setTop (mkF m 42 #[.val (.int qR), .val (.int iR), .val (.int kR), .val (.int kS), .val (.int md), .val (.double (FP.i2d iR)), .second, .val (.int sm), .val (.int wh), .val (.int mm), .val (.ref o30), .unset, .unset, .unset, .unset, .unset, .unset, .unset, .unset, .unset, .unset, .unset, .unset] [(.ref o30)]))
    refine Ends.pre (fun tt kt => XS.iload X30.here hx rfl (hb hby at_42) rfl kt) ?_
    show Ends p e below _ (T30.setTop (mkF m 44 #[.val (.int qR), .val (.int iR), .val (.int kR), .val (.int kS), .val (.int md), .val (.double (FP.i2d iR)), .second, .val (.int sm), .val (.int wh), .val (.int mm), .val (.ref o30), .unset, .unset, .unset, .unset, .unset, .unset, .unset, .unset, .unset, .unset, .unset, .unset] [(.int sm), (.ref o30)]))
    refine Ends.pre (fun tt kt => XS.dload X30.here hx rfl (hb hby at_44) rfl kt) ?_
    show Ends p e below _ (T30.setTop (mkF m 46 #[.val (.int qR), .val (.int iR), .val (.int kR), .val (.int kS), .val (.int md), .val (.double (FP.i2d iR)), .second, .val (.int sm), .val (.int wh), .val (.int mm), .val (.ref o30), .unset, .unset, .unset, .unset, .unset, .unset, .unset, .unset, .unset, .unset, .unset, .unset] [(.double (FP.i2d iR)), (.int sm), (.ref o30)]))
    obtain ⟨cq31, kq31, q31a, q31b, q31c⟩ := isOf hZ rfl E_o30
    obtain ⟨_, _, ⟨T31, L31, k31, n31⟩, -, X31, ⟨Lc31, hQ31, l31, y31, z31⟩, st31⟩ := X30.virtualBack hx (y := (⟨"com/example/bare_ranker/bareranker/search/Bm25", "queryWeight", "(ID)D"⟩ : MethodName)) (z := (⟨"com/example/bare_ranker/bareranker/search/Bm25", "queryWeight", "(ID)D"⟩ : MethodName)) hown (mvT hZ (hw _ (List.mem_of_getElem? (i := 89) rfl))) (mvT hZ (hw _ (List.mem_of_getElem? (i := 90) rfl))) (notFace_of_selects (args := #[]) (mvT hZ (hw _ (List.mem_of_getElem? (i := 92) rfl)))) (mvT hZ (hw _ (List.mem_of_getElem? (i := 92) rfl))) (mvT hZ (hw _ (List.mem_of_getElem? (i := 91) rfl))) (by decide) (backOf (W := 0) (rm12 l Z a0 hw [] o30 sm (FP.i2d iR) FP.dconst0 T30.heap n0 Z0 F_k3_o30 ok) hZ (hw _ (List.mem_of_getElem? (i := 93) rfl)) (hw _ (List.mem_of_getElem? (i := 12) rfl)) (by decide) (by decide)) q31a q31c (g := (mkF m 46 #[.val (.int qR), .val (.int iR), .val (.int kR), .val (.int kS), .val (.int md), .val (.double (FP.i2d iR)), .second, .val (.int sm), .val (.int wh), .val (.int mm), .val (.ref o30), .unset, .unset, .unset, .unset, .unset, .unset, .unset, .unset, .unset, .unset, .unset, .unset] [(.double (FP.i2d iR)), (.int sm), (.ref o30)])) rfl (by rw [hml]; rfl) (Steps.refl _) (argsL := [(.int sm), (.double (FP.i2d iR))]) (rest := []) (lenOf pd0_2 rfl) rfl (by show 2 * 0 + _ ≤ _; exact Nat.le_of_eq rfl) (hb hby at_46) (fun _ _ => ⟨rfl, rfl, (show (1 : Nat) + (0 : Nat) ≤ _ from by decide), (show (7 : Nat) + (0 : Nat) ≤ _ from by decide)⟩)
    dsimp only [Pt.U, Pt.locs, Pt.cells, Pt.slots] at X31 l31 y31 z31 st31 hQ31
    subst l31 y31 z31
    obtain ⟨rfl, N31q, e31⟩ := hQ31
    have N31 := Fr.app N30 N31q
    refine Ends.pre (fun tt kt => st31.trans kt) ?_
    show Ends p e below _ (T31.setTop (mkF m 49 #[.val (.int qR), .val (.int iR), .val (.int kR), .val (.int kS), .val (.int md), .val (.double (FP.i2d iR)), .second, .val (.int sm), .val (.int wh), .val (.int mm), .val (.ref o30), .unset, .unset, .unset, .unset, .unset, .unset, .unset, .unset, .unset, .unset, .unset, .unset] [(.double (own_qw sm FP.dconst0 (FP.i2d iR)))]))
    rw [eq]
    show Ends p e below _ (T31.setTop (mkF m 49 #[.val (.int qR), .val (.int iR), .val (.int kR), .val (.int kS), .val (.int md), .val (.double (FP.i2d iR)), .second, .val (.int sm), .val (.int wh), .val (.int mm), .val (.ref o30), .unset, .unset, .unset, .unset, .unset, .unset, .unset, .unset, .unset, .unset, .unset, .unset] [(.double (FP.i2d iR))]))
    refine Ends.pre (fun tt kt => XS.dload X31.here hx rfl (hb hby at_49) rfl kt) ?_
    show Ends p e below _ (T31.setTop (mkF m 51 #[.val (.int qR), .val (.int iR), .val (.int kR), .val (.int kS), .val (.int md), .val (.double (FP.i2d iR)), .second, .val (.int sm), .val (.int wh), .val (.int mm), .val (.ref o30), .unset, .unset, .unset, .unset, .unset, .unset, .unset, .unset, .unset, .unset, .unset, .unset] [(.double (FP.i2d iR)), (.double (FP.i2d iR))]))
    refine Ends.pre (fun tt kt => XS.dcmpS X31.here hx rfl (v := (0 : Int32)) (hb hby at_51) rfl (dcmpV_self hi.noNaN .l) kt) ?_
    show Ends p e below _ (T31.setTop (mkF m 52 #[.val (.int qR), .val (.int iR), .val (.int kR), .val (.int kS), .val (.int md), .val (.double (FP.i2d iR)), .second, .val (.int sm), .val (.int wh), .val (.int mm), .val (.ref o30), .unset, .unset, .unset, .unset, .unset, .unset, .unset, .unset, .unset, .unset, .unset, .unset] [(.int (0 : Int32))]))
    refine Ends.pre (fun tt kt => XS.ifNo X31.here hx rfl (hb hby at_52) rfl ((if0 _ _).trans (teq rfl).2) kt) ?_
    show Ends p e below _ (T31.setTop (mkF m 55 #[.val (.int qR), .val (.int iR), .val (.int kR), .val (.int kS), .val (.int md), .val (.double (FP.i2d iR)), .second, .val (.int sm), .val (.int wh), .val (.int mm), .val (.ref o30), .unset, .unset, .unset, .unset, .unset, .unset, .unset, .unset, .unset, .unset, .unset, .unset] []))
    refine Ends.pre (fun tt kt => XS.iconst X31.here hx rfl (hb hby at_55) kt) ?_
    show Ends p e below _ (T31.setTop (mkF m 56 #[.val (.int qR), .val (.int iR), .val (.int kR), .val (.int kS), .val (.int md), .val (.double (FP.i2d iR)), .second, .val (.int sm), .val (.int wh), .val (.int mm), .val (.ref o30), .unset, .unset, .unset, .unset, .unset, .unset, .unset, .unset, .unset, .unset, .unset, .unset] [(.int (1 : Int32))]))
    refine Ends.pre (fun tt kt => XS.goto X31.here hx rfl (pc0 := 56) (pc' := 60) rfl (hb hby at_56) (by decide) (by decide) kt) ?_
    show Ends p e below _ (T31.setTop (mkF m 60 #[.val (.int qR), .val (.int iR), .val (.int kR), .val (.int kS), .val (.int md), .val (.double (FP.i2d iR)), .second, .val (.int sm), .val (.int wh), .val (.int mm), .val (.ref o30), .unset, .unset, .unset, .unset, .unset, .unset, .unset, .unset, .unset, .unset, .unset, .unset] [(.int (1 : Int32))]))
    obtain ⟨fs, hr, hrun, hended, hW, hsame⟩ := X31.leave (v := some (.int (1 : Int32))) (fun h => by rw [Bd.returns] at h; cases h)
    refine ⟨_, _, retN X31 hx (t := .boolean) Bd.returns (by simp) (hb hby at_60) hr, hrun, hended, _, _, rfl, ?_, ⟨_, rfl⟩, hW, hsame.mono (by decide) (by decide)⟩
    show Q0 Z _ _ _ _ _ _ _ _ _ _ _ _ h0 n0 _ T31.heap _
    rw [e31]
    exact ⟨rfl, N31⟩
  ·
    refine Ends.pre (fun tt kt => XS.ifYes X29.here hx rfl (pc0 := 31) (pc' := 61) rfl (hb hby at_31) rfl ((if0 _ _).trans (feq c0).2) (by decide) (by decide) kt) ?_
    show Ends p e below _ (T29.setTop (mkF m 61 #[.val (.int qR), .val (.int iR), .val (.int kR), .val (.int kS), .val (.int md), .val (.double (FP.i2d iR)), .second, .val (.int sm), .val (.int wh), .val (.int mm), .unset, .unset, .unset, .unset, .unset, .unset, .unset, .unset, .unset, .unset, .unset, .unset, .unset] []))
    refine Ends.pre (fun tt kt => XS.iload X29.here hx rfl (hb hby at_61) rfl kt) ?_
    show Ends p e below _ (T29.setTop (mkF m 63 #[.val (.int qR), .val (.int iR), .val (.int kR), .val (.int kS), .val (.int md), .val (.double (FP.i2d iR)), .second, .val (.int sm), .val (.int wh), .val (.int mm), .unset, .unset, .unset, .unset, .unset, .unset, .unset, .unset, .unset, .unset, .unset, .unset, .unset] [(.int mm)]))
    refine Ends.pre (fun tt kt => XS.iconst X29.here hx rfl (hb hby at_63) kt) ?_
    show Ends p e below _ (T29.setTop (mkF m 64 #[.val (.int qR), .val (.int iR), .val (.int kR), .val (.int kS), .val (.int md), .val (.double (FP.i2d iR)), .second, .val (.int sm), .val (.int wh), .val (.int mm), .unset, .unset, .unset, .unset, .unset, .unset, .unset, .unset, .unset, .unset, .unset, .unset, .unset] [(.int (1 : Int32)), (.int mm)]))
    by_cases c1 : mm = (1 : Int32)
    ·
      refine Ends.pre (fun tt kt => XS.icmpNo X29.here hx rfl (hb hby at_64) rfl (teq c1).2 kt) ?_
      show Ends p e below _ (T29.setTop (mkF m 67 #[.val (.int qR), .val (.int iR), .val (.int kR), .val (.int kS), .val (.int md), .val (.double (FP.i2d iR)), .second, .val (.int sm), .val (.int wh), .val (.int mm), .unset, .unset, .unset, .unset, .unset, .unset, .unset, .unset, .unset, .unset, .unset, .unset, .unset] []))
      obtain ⟨ok, eq⟩ := own_mode12 (k3 := (9218868437227405312 : UInt64)) hu hu1 hi (Or.inl (own_D1 hu))
      have hnn := Jvm.Free.Fl.dmul_out (Jvm.Free.Fl.i2d_fin wh) hi
      refine Ends.pre (fun tt kt => X29.ldc2DoubleC hx hown (mvT hZ (hw _ (List.mem_of_getElem? (i := 94) rfl))) (g := (mkF m 67 #[.val (.int qR), .val (.int iR), .val (.int kR), .val (.int kS), .val (.int md), .val (.double (FP.i2d iR)), .second, .val (.int sm), .val (.int wh), .val (.int mm), .unset, .unset, .unset, .unset, .unset, .unset, .unset, .unset, .unset, .unset, .unset, .unset, .unset] [])) rfl (hb hby at_67) _ kt) ?_
      show Ends p e below _ (T29.setTop (mkF m 70 #[.val (.int qR), .val (.int iR), .val (.int kR), .val (.int kS), .val (.int md), .val (.double (FP.i2d iR)), .second, .val (.int sm), .val (.int wh), .val (.int mm), .unset, .unset, .unset, .unset, .unset, .unset, .unset, .unset, .unset, .unset, .unset, .unset, .unset] [(.double (9218868437227405312 : UInt64))]))
      obtain ⟨_, _, ⟨T32, L32, k32, n32⟩, -, X32, ⟨Lc32, hQ32, l32, y32, z32⟩, st32⟩ := Jvm.LawKit.callS X29 hx (y := (⟨"com/example/bare_ranker/bareranker/search/Bm25QueryWeightPinLaw", "make", "(D)Lcom/example/bare_ranker/bareranker/search/Bm25;"⟩ : MethodName)) hown (mvT hZ (hw _ (List.mem_of_getElem? (i := 6) rfl))) (mvT hZ (hw _ (List.mem_of_getElem? (i := 7) rfl))) (mvT hZ (hw _ (List.mem_of_getElem? (i := 8) rfl))) (mvT hZ (hw _ (List.mem_of_getElem? (i := 9) rfl))) (by decide) (backOf (W := 0) (rm2 l Z a0 hw [] am an ai aL aP aA aF (9218868437227405312 : UInt64) h0 n0 Z0 E_am E_an E_ai SL SP SA SF SV SB SI n1 n2 n3 n4 (by decide +kernel)) hZ (hw _ (List.mem_of_getElem? (i := 9) rfl)) (hw _ (List.mem_of_getElem? (i := 8) rfl)) (by decide) (by decide)) (g := (mkF m 70 #[.val (.int qR), .val (.int iR), .val (.int kR), .val (.int kS), .val (.int md), .val (.double (FP.i2d iR)), .second, .val (.int sm), .val (.int wh), .val (.int mm), .unset, .unset, .unset, .unset, .unset, .unset, .unset, .unset, .unset, .unset, .unset, .unset, .unset] [(.double (9218868437227405312 : UInt64))])) rfl (by rw [hml]; rfl) (argsL := [(.double (9218868437227405312 : UInt64))]) (rest := []) (lenOf pd0_1 rfl) rfl (by show 2 * 0 + _ ≤ _; exact Nat.le_of_eq rfl) (hb hby at_70) (fun _ _ => ⟨rfl, e29, (show (0 : Nat) + (1 : Nat) ≤ _ from by decide), (show (0 : Nat) + (7 : Nat) ≤ _ from by decide)⟩)
      dsimp only [Pt.U, Pt.locs, Pt.cells, Pt.slots] at X32 l32 y32 z32 st32 hQ32
      subst l32 y32 z32
      obtain ⟨rfl, N32q, K32, G32_0, G32_1⟩ := hQ32
      obtain ⟨o32, g32⟩ : ∃ z, z = h0.size := ⟨_, rfl⟩
      rw [← g32] at G32_0 G32_1 st32
      have E_am := E_am.keep K32
      have E_an := E_an.keep K32
      have E_ai := E_ai.keep K32
      have SL := own_sta_keep0 SL K32
      have SP := own_sta_keep0 SP K32
      have SA := own_sta_keep0 SA K32
      have SF := own_sta_keep0 SF K32
      have SV := own_sta_keep0 SV K32
      have SB := own_sta_keep0 SB K32
      have SI := own_sta_keep0 SI K32
      have Z0 := Nat.le_trans Z0 K32.1
      have E_o32 := G32_0
      have F_k3_o32 := G32_1
      have N32 := Fr.app N29 N32q
      refine Ends.pre (fun tt kt => st32 _ kt) ?_
      show Ends p e below _ (T32.setTop (mkF m 73 #[.val (.int qR), .val (.int iR), .val (.int kR), .val (.int kS), .val (.int md), .val (.double (FP.i2d iR)), .second, .val (.int sm), .val (.int wh), .val (.int mm), .unset, .unset, .unset, .unset, .unset, .unset, .unset, .unset, .unset, .unset, .unset, .unset, .unset] [(.ref o32)]))
      refine Ends.pre (fun tt kt => XS.astore X32.here hx rfl (hb hby at_73) rfl rfl (l' := #[.val (.int qR), .val (.int iR), .val (.int kR), .val (.int kS), .val (.int md), .val (.double (FP.i2d iR)), .second, .val (.int sm), .val (.int wh), .val (.int mm), .val (.ref o32), .unset, .unset, .unset, .unset, .unset, .unset, .unset, .unset, .unset, .unset, .unset, .unset]) rfl kt) ?_
      show Ends p e below _ (T32.setTop (mkF m 75 #[.val (.int qR), .val (.int iR), .val (.int kR), .val (.int kS), .val (.int md), .val (.double (FP.i2d iR)), .second, .val (.int sm), .val (.int wh), .val (.int mm), .val (.ref o32), .unset, .unset, .unset, .unset, .unset, .unset, .unset, .unset, .unset, .unset, .unset, .unset] []))
      refine Ends.pre (fun tt kt => XS.aload X32.here hx rfl (hb hby at_75) rfl rfl kt) ?_
      show Ends p e below _ (T32.setTop (mkF m 77 #[.val (.int qR), .val (.int iR), .val (.int kR), .val (.int kS), .val (.int md), .val (.double (FP.i2d iR)), .second, .val (.int sm), .val (.int wh), .val (.int mm), .val (.ref o32), .unset, .unset, .unset, .unset, .unset, .unset, .unset, .unset, .unset, .unset, .unset, .unset] [(.ref o32)]))
      refine Ends.pre (fun tt kt => XS.iload X32.here hx rfl (hb hby at_77) rfl kt) ?_
      show Ends p e below _ (T32.setTop (mkF m 79 #[.val (.int qR), .val (.int iR), .val (.int kR), .val (.int kS), .val (.int md), .val (.double (FP.i2d iR)), .second, .val (.int sm), .val (.int wh), .val (.int mm), .val (.ref o32), .unset, .unset, .unset, .unset, .unset, .unset, .unset, .unset, .unset, .unset, .unset, .unset] [(.int wh), (.ref o32)]))
      refine Ends.pre (fun tt kt => XS.dload X32.here hx rfl (hb hby at_79) rfl kt) ?_
      show Ends p e below _ (T32.setTop (mkF m 81 #[.val (.int qR), .val (.int iR), .val (.int kR), .val (.int kS), .val (.int md), .val (.double (FP.i2d iR)), .second, .val (.int sm), .val (.int wh), .val (.int mm), .val (.ref o32), .unset, .unset, .unset, .unset, .unset, .unset, .unset, .unset, .unset, .unset, .unset, .unset] [(.double (FP.i2d iR)), (.int wh), (.ref o32)]))
      obtain ⟨cq33, kq33, q33a, q33b, q33c⟩ := isOf hZ rfl E_o32
      obtain ⟨_, _, ⟨T33, L33, k33, n33⟩, -, X33, ⟨Lc33, hQ33, l33, y33, z33⟩, st33⟩ := X32.virtualBack hx (y := (⟨"com/example/bare_ranker/bareranker/search/Bm25", "queryWeight", "(ID)D"⟩ : MethodName)) (z := (⟨"com/example/bare_ranker/bareranker/search/Bm25", "queryWeight", "(ID)D"⟩ : MethodName)) hown (mvT hZ (hw _ (List.mem_of_getElem? (i := 89) rfl))) (mvT hZ (hw _ (List.mem_of_getElem? (i := 90) rfl))) (notFace_of_selects (args := #[]) (mvT hZ (hw _ (List.mem_of_getElem? (i := 92) rfl)))) (mvT hZ (hw _ (List.mem_of_getElem? (i := 92) rfl))) (mvT hZ (hw _ (List.mem_of_getElem? (i := 91) rfl))) (by decide) (backOf (W := 0) (rm12 l Z a0 hw [] o32 wh (FP.i2d iR) (9218868437227405312 : UInt64) T32.heap n0 Z0 F_k3_o32 ok) hZ (hw _ (List.mem_of_getElem? (i := 93) rfl)) (hw _ (List.mem_of_getElem? (i := 12) rfl)) (by decide) (by decide)) q33a q33c (g := (mkF m 81 #[.val (.int qR), .val (.int iR), .val (.int kR), .val (.int kS), .val (.int md), .val (.double (FP.i2d iR)), .second, .val (.int sm), .val (.int wh), .val (.int mm), .val (.ref o32), .unset, .unset, .unset, .unset, .unset, .unset, .unset, .unset, .unset, .unset, .unset, .unset] [(.double (FP.i2d iR)), (.int wh), (.ref o32)])) rfl (by rw [hml]; rfl) (Steps.refl _) (argsL := [(.int wh), (.double (FP.i2d iR))]) (rest := []) (lenOf pd0_2 rfl) rfl (by show 2 * 0 + _ ≤ _; exact Nat.le_of_eq rfl) (hb hby at_81) (fun _ _ => ⟨rfl, rfl, (show (1 : Nat) + (0 : Nat) ≤ _ from by decide), (show (7 : Nat) + (0 : Nat) ≤ _ from by decide)⟩)
      dsimp only [Pt.U, Pt.locs, Pt.cells, Pt.slots] at X33 l33 y33 z33 st33 hQ33
      subst l33 y33 z33
      obtain ⟨rfl, N33q, e33⟩ := hQ33
      have N33 := Fr.app N32 N33q
      refine Ends.pre (fun tt kt => st33.trans kt) ?_
      show Ends p e below _ (T33.setTop (mkF m 84 #[.val (.int qR), .val (.int iR), .val (.int kR), .val (.int kS), .val (.int md), .val (.double (FP.i2d iR)), .second, .val (.int sm), .val (.int wh), .val (.int mm), .val (.ref o32), .unset, .unset, .unset, .unset, .unset, .unset, .unset, .unset, .unset, .unset, .unset, .unset] [(.double (own_qw wh (9218868437227405312 : UInt64) (FP.i2d iR)))]))
      rw [eq]
      show Ends p e below _ (T33.setTop (mkF m 84 #[.val (.int qR), .val (.int iR), .val (.int kR), .val (.int kS), .val (.int md), .val (.double (FP.i2d iR)), .second, .val (.int sm), .val (.int wh), .val (.int mm), .val (.ref o32), .unset, .unset, .unset, .unset, .unset, .unset, .unset, .unset, .unset, .unset, .unset, .unset] [(.double (FP.dmul (FP.i2d wh) (FP.i2d iR)))]))
      refine Ends.pre (fun tt kt => XS.iload X33.here hx rfl (hb hby at_84) rfl kt) ?_
      show Ends p e below _ (T33.setTop (mkF m 86 #[.val (.int qR), .val (.int iR), .val (.int kR), .val (.int kS), .val (.int md), .val (.double (FP.i2d iR)), .second, .val (.int sm), .val (.int wh), .val (.int mm), .val (.ref o32), .unset, .unset, .unset, .unset, .unset, .unset, .unset, .unset, .unset, .unset, .unset, .unset] [(.int wh), (.double (FP.dmul (FP.i2d wh) (FP.i2d iR)))]))
      refine Ends.pre (fun tt kt => XS.i2dS X33.here hx rfl (v := (FP.i2d wh)) (hb hby at_86) rfl rfl kt) ?_
      show Ends p e below _ (T33.setTop (mkF m 87 #[.val (.int qR), .val (.int iR), .val (.int kR), .val (.int kS), .val (.int md), .val (.double (FP.i2d iR)), .second, .val (.int sm), .val (.int wh), .val (.int mm), .val (.ref o32), .unset, .unset, .unset, .unset, .unset, .unset, .unset, .unset, .unset, .unset, .unset, .unset] [(.double (FP.i2d wh)), (.double (FP.dmul (FP.i2d wh) (FP.i2d iR)))]))
      refine Ends.pre (fun tt kt => XS.dload X33.here hx rfl (hb hby at_87) rfl kt) ?_
      show Ends p e below _ (T33.setTop (mkF m 89 #[.val (.int qR), .val (.int iR), .val (.int kR), .val (.int kS), .val (.int md), .val (.double (FP.i2d iR)), .second, .val (.int sm), .val (.int wh), .val (.int mm), .val (.ref o32), .unset, .unset, .unset, .unset, .unset, .unset, .unset, .unset, .unset, .unset, .unset, .unset] [(.double (FP.i2d iR)), (.double (FP.i2d wh)), (.double (FP.dmul (FP.i2d wh) (FP.i2d iR)))]))
      refine Ends.pre (fun tt kt => XS.dmulS X33.here hx rfl (v := (FP.dmul (FP.i2d wh) (FP.i2d iR))) (hb hby at_89) rfl hnn rfl kt) ?_
      show Ends p e below _ (T33.setTop (mkF m 90 #[.val (.int qR), .val (.int iR), .val (.int kR), .val (.int kS), .val (.int md), .val (.double (FP.i2d iR)), .second, .val (.int sm), .val (.int wh), .val (.int mm), .val (.ref o32), .unset, .unset, .unset, .unset, .unset, .unset, .unset, .unset, .unset, .unset, .unset, .unset] [(.double (FP.dmul (FP.i2d wh) (FP.i2d iR))), (.double (FP.dmul (FP.i2d wh) (FP.i2d iR)))]))
      refine Ends.pre (fun tt kt => XS.dcmpS X33.here hx rfl (v := (0 : Int32)) (hb hby at_90) rfl (dcmpV_self hnn .l) kt) ?_
      show Ends p e below _ (T33.setTop (mkF m 91 #[.val (.int qR), .val (.int iR), .val (.int kR), .val (.int kS), .val (.int md), .val (.double (FP.i2d iR)), .second, .val (.int sm), .val (.int wh), .val (.int mm), .val (.ref o32), .unset, .unset, .unset, .unset, .unset, .unset, .unset, .unset, .unset, .unset, .unset, .unset] [(.int (0 : Int32))]))
      refine Ends.pre (fun tt kt => XS.ifNo X33.here hx rfl (hb hby at_91) rfl ((if0 _ _).trans (teq rfl).2) kt) ?_
      show Ends p e below _ (T33.setTop (mkF m 94 #[.val (.int qR), .val (.int iR), .val (.int kR), .val (.int kS), .val (.int md), .val (.double (FP.i2d iR)), .second, .val (.int sm), .val (.int wh), .val (.int mm), .val (.ref o32), .unset, .unset, .unset, .unset, .unset, .unset, .unset, .unset, .unset, .unset, .unset, .unset] []))
      refine Ends.pre (fun tt kt => XS.iconst X33.here hx rfl (hb hby at_94) kt) ?_
      show Ends p e below _ (T33.setTop (mkF m 95 #[.val (.int qR), .val (.int iR), .val (.int kR), .val (.int kS), .val (.int md), .val (.double (FP.i2d iR)), .second, .val (.int sm), .val (.int wh), .val (.int mm), .val (.ref o32), .unset, .unset, .unset, .unset, .unset, .unset, .unset, .unset, .unset, .unset, .unset, .unset] [(.int (1 : Int32))]))
      refine Ends.pre (fun tt kt => XS.goto X33.here hx rfl (pc0 := 95) (pc' := 99) rfl (hb hby at_95) (by decide) (by decide) kt) ?_
      show Ends p e below _ (T33.setTop (mkF m 99 #[.val (.int qR), .val (.int iR), .val (.int kR), .val (.int kS), .val (.int md), .val (.double (FP.i2d iR)), .second, .val (.int sm), .val (.int wh), .val (.int mm), .val (.ref o32), .unset, .unset, .unset, .unset, .unset, .unset, .unset, .unset, .unset, .unset, .unset, .unset] [(.int (1 : Int32))]))
      obtain ⟨fs, hr, hrun, hended, hW, hsame⟩ := X33.leave (v := some (.int (1 : Int32))) (fun h => by rw [Bd.returns] at h; cases h)
      refine ⟨_, _, retN X33 hx (t := .boolean) Bd.returns (by simp) (hb hby at_99) hr, hrun, hended, _, _, rfl, ?_, ⟨_, rfl⟩, hW, hsame.mono (by decide) (by decide)⟩
      show Q0 Z _ _ _ _ _ _ _ _ _ _ _ _ h0 n0 _ T33.heap _
      rw [e33]
      exact ⟨rfl, N33⟩
    ·
      refine Ends.pre (fun tt kt => XS.icmpYes X29.here hx rfl (pc0 := 64) (pc' := 100) rfl (hb hby at_64) rfl (feq c1).2 (by decide) (by decide) kt) ?_
      show Ends p e below _ (T29.setTop (mkF m 100 #[.val (.int qR), .val (.int iR), .val (.int kR), .val (.int kS), .val (.int md), .val (.double (FP.i2d iR)), .second, .val (.int sm), .val (.int wh), .val (.int mm), .unset, .unset, .unset, .unset, .unset, .unset, .unset, .unset, .unset, .unset, .unset, .unset, .unset] []))
      refine Ends.pre (fun tt kt => XS.iload X29.here hx rfl (hb hby at_100) rfl kt) ?_
      show Ends p e below _ (T29.setTop (mkF m 102 #[.val (.int qR), .val (.int iR), .val (.int kR), .val (.int kS), .val (.int md), .val (.double (FP.i2d iR)), .second, .val (.int sm), .val (.int wh), .val (.int mm), .unset, .unset, .unset, .unset, .unset, .unset, .unset, .unset, .unset, .unset, .unset, .unset, .unset] [(.int mm)]))
      refine Ends.pre (fun tt kt => XS.iconst X29.here hx rfl (hb hby at_102) kt) ?_
      show Ends p e below _ (T29.setTop (mkF m 103 #[.val (.int qR), .val (.int iR), .val (.int kR), .val (.int kS), .val (.int md), .val (.double (FP.i2d iR)), .second, .val (.int sm), .val (.int wh), .val (.int mm), .unset, .unset, .unset, .unset, .unset, .unset, .unset, .unset, .unset, .unset, .unset, .unset, .unset] [(.int (2 : Int32)), (.int mm)]))
      by_cases c2 : mm = (2 : Int32)
      ·
        refine Ends.pre (fun tt kt => XS.icmpNo X29.here hx rfl (hb hby at_103) rfl (teq c2).2 kt) ?_
        show Ends p e below _ (T29.setTop (mkF m 106 #[.val (.int qR), .val (.int iR), .val (.int kR), .val (.int kS), .val (.int md), .val (.double (FP.i2d iR)), .second, .val (.int sm), .val (.int wh), .val (.int mm), .unset, .unset, .unset, .unset, .unset, .unset, .unset, .unset, .unset, .unset, .unset, .unset, .unset] []))
        obtain ⟨ok, eq⟩ := own_mode12 (k3 := (9218868437227405311 : UInt64)) hu hu1 hi (own_D2 hu)
        have hnn := Jvm.Free.Fl.dmul_out (Jvm.Free.Fl.i2d_fin wh) hi
        refine Ends.pre (fun tt kt => X29.ldc2DoubleC hx hown (mvT hZ (hw _ (List.mem_of_getElem? (i := 95) rfl))) (g := (mkF m 106 #[.val (.int qR), .val (.int iR), .val (.int kR), .val (.int kS), .val (.int md), .val (.double (FP.i2d iR)), .second, .val (.int sm), .val (.int wh), .val (.int mm), .unset, .unset, .unset, .unset, .unset, .unset, .unset, .unset, .unset, .unset, .unset, .unset, .unset] [])) rfl (hb hby at_106) _ kt) ?_
        show Ends p e below _ (T29.setTop (mkF m 109 #[.val (.int qR), .val (.int iR), .val (.int kR), .val (.int kS), .val (.int md), .val (.double (FP.i2d iR)), .second, .val (.int sm), .val (.int wh), .val (.int mm), .unset, .unset, .unset, .unset, .unset, .unset, .unset, .unset, .unset, .unset, .unset, .unset, .unset] [(.double (9218868437227405311 : UInt64))]))
        obtain ⟨_, _, ⟨T34, L34, k34, n34⟩, -, X34, ⟨Lc34, hQ34, l34, y34, z34⟩, st34⟩ := Jvm.LawKit.callS X29 hx (y := (⟨"com/example/bare_ranker/bareranker/search/Bm25QueryWeightPinLaw", "make", "(D)Lcom/example/bare_ranker/bareranker/search/Bm25;"⟩ : MethodName)) hown (mvT hZ (hw _ (List.mem_of_getElem? (i := 6) rfl))) (mvT hZ (hw _ (List.mem_of_getElem? (i := 7) rfl))) (mvT hZ (hw _ (List.mem_of_getElem? (i := 8) rfl))) (mvT hZ (hw _ (List.mem_of_getElem? (i := 9) rfl))) (by decide) (backOf (W := 0) (rm2 l Z a0 hw [] am an ai aL aP aA aF (9218868437227405311 : UInt64) h0 n0 Z0 E_am E_an E_ai SL SP SA SF SV SB SI n1 n2 n3 n4 (by decide +kernel)) hZ (hw _ (List.mem_of_getElem? (i := 9) rfl)) (hw _ (List.mem_of_getElem? (i := 8) rfl)) (by decide) (by decide)) (g := (mkF m 109 #[.val (.int qR), .val (.int iR), .val (.int kR), .val (.int kS), .val (.int md), .val (.double (FP.i2d iR)), .second, .val (.int sm), .val (.int wh), .val (.int mm), .unset, .unset, .unset, .unset, .unset, .unset, .unset, .unset, .unset, .unset, .unset, .unset, .unset] [(.double (9218868437227405311 : UInt64))])) rfl (by rw [hml]; rfl) (argsL := [(.double (9218868437227405311 : UInt64))]) (rest := []) (lenOf pd0_1 rfl) rfl (by show 2 * 0 + _ ≤ _; exact Nat.le_of_eq rfl) (hb hby at_109) (fun _ _ => ⟨rfl, e29, (show (0 : Nat) + (1 : Nat) ≤ _ from by decide), (show (0 : Nat) + (7 : Nat) ≤ _ from by decide)⟩)
        dsimp only [Pt.U, Pt.locs, Pt.cells, Pt.slots] at X34 l34 y34 z34 st34 hQ34
        subst l34 y34 z34
        obtain ⟨rfl, N34q, K34, G34_0, G34_1⟩ := hQ34
        obtain ⟨o34, g34⟩ : ∃ z, z = h0.size := ⟨_, rfl⟩
        rw [← g34] at G34_0 G34_1 st34
        have E_am := E_am.keep K34
        have E_an := E_an.keep K34
        have E_ai := E_ai.keep K34
        have SL := own_sta_keep0 SL K34
        have SP := own_sta_keep0 SP K34
        have SA := own_sta_keep0 SA K34
        have SF := own_sta_keep0 SF K34
        have SV := own_sta_keep0 SV K34
        have SB := own_sta_keep0 SB K34
        have SI := own_sta_keep0 SI K34
        have Z0 := Nat.le_trans Z0 K34.1
        have E_o34 := G34_0
        have F_k3_o34 := G34_1
        have N34 := Fr.app N29 N34q
        refine Ends.pre (fun tt kt => st34 _ kt) ?_
        show Ends p e below _ (T34.setTop (mkF m 112 #[.val (.int qR), .val (.int iR), .val (.int kR), .val (.int kS), .val (.int md), .val (.double (FP.i2d iR)), .second, .val (.int sm), .val (.int wh), .val (.int mm), .unset, .unset, .unset, .unset, .unset, .unset, .unset, .unset, .unset, .unset, .unset, .unset, .unset] [(.ref o34)]))
        refine Ends.pre (fun tt kt => XS.astore X34.here hx rfl (hb hby at_112) rfl rfl (l' := #[.val (.int qR), .val (.int iR), .val (.int kR), .val (.int kS), .val (.int md), .val (.double (FP.i2d iR)), .second, .val (.int sm), .val (.int wh), .val (.int mm), .val (.ref o34), .unset, .unset, .unset, .unset, .unset, .unset, .unset, .unset, .unset, .unset, .unset, .unset]) rfl kt) ?_
        show Ends p e below _ (T34.setTop (mkF m 114 #[.val (.int qR), .val (.int iR), .val (.int kR), .val (.int kS), .val (.int md), .val (.double (FP.i2d iR)), .second, .val (.int sm), .val (.int wh), .val (.int mm), .val (.ref o34), .unset, .unset, .unset, .unset, .unset, .unset, .unset, .unset, .unset, .unset, .unset, .unset] []))
        refine Ends.pre (fun tt kt => XS.aload X34.here hx rfl (hb hby at_114) rfl rfl kt) ?_
        show Ends p e below _ (T34.setTop (mkF m 116 #[.val (.int qR), .val (.int iR), .val (.int kR), .val (.int kS), .val (.int md), .val (.double (FP.i2d iR)), .second, .val (.int sm), .val (.int wh), .val (.int mm), .val (.ref o34), .unset, .unset, .unset, .unset, .unset, .unset, .unset, .unset, .unset, .unset, .unset, .unset] [(.ref o34)]))
        refine Ends.pre (fun tt kt => XS.iload X34.here hx rfl (hb hby at_116) rfl kt) ?_
        show Ends p e below _ (T34.setTop (mkF m 118 #[.val (.int qR), .val (.int iR), .val (.int kR), .val (.int kS), .val (.int md), .val (.double (FP.i2d iR)), .second, .val (.int sm), .val (.int wh), .val (.int mm), .val (.ref o34), .unset, .unset, .unset, .unset, .unset, .unset, .unset, .unset, .unset, .unset, .unset, .unset] [(.int wh), (.ref o34)]))
        refine Ends.pre (fun tt kt => XS.dload X34.here hx rfl (hb hby at_118) rfl kt) ?_
        show Ends p e below _ (T34.setTop (mkF m 120 #[.val (.int qR), .val (.int iR), .val (.int kR), .val (.int kS), .val (.int md), .val (.double (FP.i2d iR)), .second, .val (.int sm), .val (.int wh), .val (.int mm), .val (.ref o34), .unset, .unset, .unset, .unset, .unset, .unset, .unset, .unset, .unset, .unset, .unset, .unset] [(.double (FP.i2d iR)), (.int wh), (.ref o34)]))
        obtain ⟨cq35, kq35, q35a, q35b, q35c⟩ := isOf hZ rfl E_o34
        obtain ⟨_, _, ⟨T35, L35, k35, n35⟩, -, X35, ⟨Lc35, hQ35, l35, y35, z35⟩, st35⟩ := X34.virtualBack hx (y := (⟨"com/example/bare_ranker/bareranker/search/Bm25", "queryWeight", "(ID)D"⟩ : MethodName)) (z := (⟨"com/example/bare_ranker/bareranker/search/Bm25", "queryWeight", "(ID)D"⟩ : MethodName)) hown (mvT hZ (hw _ (List.mem_of_getElem? (i := 89) rfl))) (mvT hZ (hw _ (List.mem_of_getElem? (i := 90) rfl))) (notFace_of_selects (args := #[]) (mvT hZ (hw _ (List.mem_of_getElem? (i := 92) rfl)))) (mvT hZ (hw _ (List.mem_of_getElem? (i := 92) rfl))) (mvT hZ (hw _ (List.mem_of_getElem? (i := 91) rfl))) (by decide) (backOf (W := 0) (rm12 l Z a0 hw [] o34 wh (FP.i2d iR) (9218868437227405311 : UInt64) T34.heap n0 Z0 F_k3_o34 ok) hZ (hw _ (List.mem_of_getElem? (i := 93) rfl)) (hw _ (List.mem_of_getElem? (i := 12) rfl)) (by decide) (by decide)) q35a q35c (g := (mkF m 120 #[.val (.int qR), .val (.int iR), .val (.int kR), .val (.int kS), .val (.int md), .val (.double (FP.i2d iR)), .second, .val (.int sm), .val (.int wh), .val (.int mm), .val (.ref o34), .unset, .unset, .unset, .unset, .unset, .unset, .unset, .unset, .unset, .unset, .unset, .unset] [(.double (FP.i2d iR)), (.int wh), (.ref o34)])) rfl (by rw [hml]; rfl) (Steps.refl _) (argsL := [(.int wh), (.double (FP.i2d iR))]) (rest := []) (lenOf pd0_2 rfl) rfl (by show 2 * 0 + _ ≤ _; exact Nat.le_of_eq rfl) (hb hby at_120) (fun _ _ => ⟨rfl, rfl, (show (1 : Nat) + (0 : Nat) ≤ _ from by decide), (show (7 : Nat) + (0 : Nat) ≤ _ from by decide)⟩)
        dsimp only [Pt.U, Pt.locs, Pt.cells, Pt.slots] at X35 l35 y35 z35 st35 hQ35
        subst l35 y35 z35
        obtain ⟨rfl, N35q, e35⟩ := hQ35
        have N35 := Fr.app N34 N35q
        refine Ends.pre (fun tt kt => st35.trans kt) ?_
        show Ends p e below _ (T35.setTop (mkF m 123 #[.val (.int qR), .val (.int iR), .val (.int kR), .val (.int kS), .val (.int md), .val (.double (FP.i2d iR)), .second, .val (.int sm), .val (.int wh), .val (.int mm), .val (.ref o34), .unset, .unset, .unset, .unset, .unset, .unset, .unset, .unset, .unset, .unset, .unset, .unset] [(.double (own_qw wh (9218868437227405311 : UInt64) (FP.i2d iR)))]))
        rw [eq]
        show Ends p e below _ (T35.setTop (mkF m 123 #[.val (.int qR), .val (.int iR), .val (.int kR), .val (.int kS), .val (.int md), .val (.double (FP.i2d iR)), .second, .val (.int sm), .val (.int wh), .val (.int mm), .val (.ref o34), .unset, .unset, .unset, .unset, .unset, .unset, .unset, .unset, .unset, .unset, .unset, .unset] [(.double (FP.dmul (FP.i2d wh) (FP.i2d iR)))]))
        refine Ends.pre (fun tt kt => XS.iload X35.here hx rfl (hb hby at_123) rfl kt) ?_
        show Ends p e below _ (T35.setTop (mkF m 125 #[.val (.int qR), .val (.int iR), .val (.int kR), .val (.int kS), .val (.int md), .val (.double (FP.i2d iR)), .second, .val (.int sm), .val (.int wh), .val (.int mm), .val (.ref o34), .unset, .unset, .unset, .unset, .unset, .unset, .unset, .unset, .unset, .unset, .unset, .unset] [(.int wh), (.double (FP.dmul (FP.i2d wh) (FP.i2d iR)))]))
        refine Ends.pre (fun tt kt => XS.i2dS X35.here hx rfl (v := (FP.i2d wh)) (hb hby at_125) rfl rfl kt) ?_
        show Ends p e below _ (T35.setTop (mkF m 126 #[.val (.int qR), .val (.int iR), .val (.int kR), .val (.int kS), .val (.int md), .val (.double (FP.i2d iR)), .second, .val (.int sm), .val (.int wh), .val (.int mm), .val (.ref o34), .unset, .unset, .unset, .unset, .unset, .unset, .unset, .unset, .unset, .unset, .unset, .unset] [(.double (FP.i2d wh)), (.double (FP.dmul (FP.i2d wh) (FP.i2d iR)))]))
        refine Ends.pre (fun tt kt => XS.dload X35.here hx rfl (hb hby at_126) rfl kt) ?_
        show Ends p e below _ (T35.setTop (mkF m 128 #[.val (.int qR), .val (.int iR), .val (.int kR), .val (.int kS), .val (.int md), .val (.double (FP.i2d iR)), .second, .val (.int sm), .val (.int wh), .val (.int mm), .val (.ref o34), .unset, .unset, .unset, .unset, .unset, .unset, .unset, .unset, .unset, .unset, .unset, .unset] [(.double (FP.i2d iR)), (.double (FP.i2d wh)), (.double (FP.dmul (FP.i2d wh) (FP.i2d iR)))]))
        refine Ends.pre (fun tt kt => XS.dmulS X35.here hx rfl (v := (FP.dmul (FP.i2d wh) (FP.i2d iR))) (hb hby at_128) rfl hnn rfl kt) ?_
        show Ends p e below _ (T35.setTop (mkF m 129 #[.val (.int qR), .val (.int iR), .val (.int kR), .val (.int kS), .val (.int md), .val (.double (FP.i2d iR)), .second, .val (.int sm), .val (.int wh), .val (.int mm), .val (.ref o34), .unset, .unset, .unset, .unset, .unset, .unset, .unset, .unset, .unset, .unset, .unset, .unset] [(.double (FP.dmul (FP.i2d wh) (FP.i2d iR))), (.double (FP.dmul (FP.i2d wh) (FP.i2d iR)))]))
        refine Ends.pre (fun tt kt => XS.dcmpS X35.here hx rfl (v := (0 : Int32)) (hb hby at_129) rfl (dcmpV_self hnn .l) kt) ?_
        show Ends p e below _ (T35.setTop (mkF m 130 #[.val (.int qR), .val (.int iR), .val (.int kR), .val (.int kS), .val (.int md), .val (.double (FP.i2d iR)), .second, .val (.int sm), .val (.int wh), .val (.int mm), .val (.ref o34), .unset, .unset, .unset, .unset, .unset, .unset, .unset, .unset, .unset, .unset, .unset, .unset] [(.int (0 : Int32))]))
        refine Ends.pre (fun tt kt => XS.ifNo X35.here hx rfl (hb hby at_130) rfl ((if0 _ _).trans (teq rfl).2) kt) ?_
        show Ends p e below _ (T35.setTop (mkF m 133 #[.val (.int qR), .val (.int iR), .val (.int kR), .val (.int kS), .val (.int md), .val (.double (FP.i2d iR)), .second, .val (.int sm), .val (.int wh), .val (.int mm), .val (.ref o34), .unset, .unset, .unset, .unset, .unset, .unset, .unset, .unset, .unset, .unset, .unset, .unset] []))
        refine Ends.pre (fun tt kt => XS.iconst X35.here hx rfl (hb hby at_133) kt) ?_
        show Ends p e below _ (T35.setTop (mkF m 134 #[.val (.int qR), .val (.int iR), .val (.int kR), .val (.int kS), .val (.int md), .val (.double (FP.i2d iR)), .second, .val (.int sm), .val (.int wh), .val (.int mm), .val (.ref o34), .unset, .unset, .unset, .unset, .unset, .unset, .unset, .unset, .unset, .unset, .unset, .unset] [(.int (1 : Int32))]))
        refine Ends.pre (fun tt kt => XS.goto X35.here hx rfl (pc0 := 134) (pc' := 138) rfl (hb hby at_134) (by decide) (by decide) kt) ?_
        show Ends p e below _ (T35.setTop (mkF m 138 #[.val (.int qR), .val (.int iR), .val (.int kR), .val (.int kS), .val (.int md), .val (.double (FP.i2d iR)), .second, .val (.int sm), .val (.int wh), .val (.int mm), .val (.ref o34), .unset, .unset, .unset, .unset, .unset, .unset, .unset, .unset, .unset, .unset, .unset, .unset] [(.int (1 : Int32))]))
        obtain ⟨fs, hr, hrun, hended, hW, hsame⟩ := X35.leave (v := some (.int (1 : Int32))) (fun h => by rw [Bd.returns] at h; cases h)
        refine ⟨_, _, retN X35 hx (t := .boolean) Bd.returns (by simp) (hb hby at_138) hr, hrun, hended, _, _, rfl, ?_, ⟨_, rfl⟩, hW, hsame.mono (by decide) (by decide)⟩
        show Q0 Z _ _ _ _ _ _ _ _ _ _ _ _ h0 n0 _ T35.heap _
        rw [e35]
        exact ⟨rfl, N35⟩
      ·
        refine Ends.pre (fun tt kt => XS.icmpYes X29.here hx rfl (pc0 := 103) (pc' := 139) rfl (hb hby at_103) rfl (feq c2).2 (by decide) (by decide) kt) ?_
        show Ends p e below _ (T29.setTop (mkF m 139 #[.val (.int qR), .val (.int iR), .val (.int kR), .val (.int kS), .val (.int md), .val (.double (FP.i2d iR)), .second, .val (.int sm), .val (.int wh), .val (.int mm), .unset, .unset, .unset, .unset, .unset, .unset, .unset, .unset, .unset, .unset, .unset, .unset, .unset] []))
        refine Ends.pre (fun tt kt => XS.iload X29.here hx rfl (hb hby at_139) rfl kt) ?_
        show Ends p e below _ (T29.setTop (mkF m 141 #[.val (.int qR), .val (.int iR), .val (.int kR), .val (.int kS), .val (.int md), .val (.double (FP.i2d iR)), .second, .val (.int sm), .val (.int wh), .val (.int mm), .unset, .unset, .unset, .unset, .unset, .unset, .unset, .unset, .unset, .unset, .unset, .unset, .unset] [(.int mm)]))
        refine Ends.pre (fun tt kt => XS.iconst X29.here hx rfl (hb hby at_141) kt) ?_
        show Ends p e below _ (T29.setTop (mkF m 142 #[.val (.int qR), .val (.int iR), .val (.int kR), .val (.int kS), .val (.int md), .val (.double (FP.i2d iR)), .second, .val (.int sm), .val (.int wh), .val (.int mm), .unset, .unset, .unset, .unset, .unset, .unset, .unset, .unset, .unset, .unset, .unset, .unset, .unset] [(.int (3 : Int32)), (.int mm)]))
        by_cases c3 : mm = (3 : Int32)
        ·
          refine Ends.pre (fun tt kt => XS.icmpNo X29.here hx rfl (hb hby at_142) rfl (teq c3).2 kt) ?_
          show Ends p e below _ (T29.setTop (mkF m 145 #[.val (.int qR), .val (.int iR), .val (.int kR), .val (.int kS), .val (.int md), .val (.double (FP.i2d iR)), .second, .val (.int sm), .val (.int wh), .val (.int mm), .unset, .unset, .unset, .unset, .unset, .unset, .unset, .unset, .unset, .unset, .unset, .unset, .unset] []))
          refine Ends.pre (fun tt kt => XS.iconst X29.here hx rfl (hb hby at_145) kt) ?_
          show Ends p e below _ (T29.setTop (mkF m 146 #[.val (.int qR), .val (.int iR), .val (.int kR), .val (.int kS), .val (.int md), .val (.double (FP.i2d iR)), .second, .val (.int sm), .val (.int wh), .val (.int mm), .unset, .unset, .unset, .unset, .unset, .unset, .unset, .unset, .unset, .unset, .unset, .unset, .unset] [(.int (2 : Int32))]))
          refine Ends.pre (fun tt kt => XS.iload X29.here hx rfl (hb hby at_146) rfl kt) ?_
          show Ends p e below _ (T29.setTop (mkF m 148 #[.val (.int qR), .val (.int iR), .val (.int kR), .val (.int kS), .val (.int md), .val (.double (FP.i2d iR)), .second, .val (.int sm), .val (.int wh), .val (.int mm), .unset, .unset, .unset, .unset, .unset, .unset, .unset, .unset, .unset, .unset, .unset, .unset, .unset] [(.int sm), (.int (2 : Int32))]))
          obtain ⟨_, _, ⟨T36, L36, k36, n36⟩, -, X36, ⟨Lc36, hQ36, l36, y36, z36⟩, st36⟩ := Jvm.LawKit.callS X29 hx (y := (⟨"java/lang/Math", "max", "(II)I"⟩ : MethodName)) hown (mvT hZ (hw _ (List.mem_of_getElem? (i := 2) rfl))) (mvT hZ (hw _ (List.mem_of_getElem? (i := 3) rfl))) (mvT hZ (hw _ (List.mem_of_getElem? (i := 4) rfl))) (mvT hZ (hw _ (List.mem_of_getElem? (i := 5) rfl))) (by decide) (backOf (W := 0) (rm1 l Z a0 hw [] (2 : Int32) sm h0 n0 Z0) hZ (hw _ (List.mem_of_getElem? (i := 5) rfl)) (hw _ (List.mem_of_getElem? (i := 4) rfl)) (by decide) (by decide)) (g := (mkF m 148 #[.val (.int qR), .val (.int iR), .val (.int kR), .val (.int kS), .val (.int md), .val (.double (FP.i2d iR)), .second, .val (.int sm), .val (.int wh), .val (.int mm), .unset, .unset, .unset, .unset, .unset, .unset, .unset, .unset, .unset, .unset, .unset, .unset, .unset] [(.int sm), (.int (2 : Int32))])) rfl (by rw [hml]; rfl) (argsL := [(.int (2 : Int32)), (.int sm)]) (rest := []) (lenOf pd0_0 rfl) rfl (by show 2 * 0 + _ ≤ _; exact Nat.le_of_eq rfl) (hb hby at_148) (fun _ _ => ⟨rfl, e29, (show (0 : Nat) + (0 : Nat) ≤ _ from by decide), (show (0 : Nat) + (0 : Nat) ≤ _ from by decide)⟩)
          dsimp only [Pt.U, Pt.locs, Pt.cells, Pt.slots] at X36 l36 y36 z36 st36 hQ36
          subst l36 y36 z36
          obtain ⟨rfl, N36q, e36⟩ := hQ36
          have N36 := Fr.app N29 N36q
          refine Ends.pre (fun tt kt => st36 _ kt) ?_
          show Ends p e below _ (T36.setTop (mkF m 151 #[.val (.int qR), .val (.int iR), .val (.int kR), .val (.int kS), .val (.int md), .val (.double (FP.i2d iR)), .second, .val (.int sm), .val (.int wh), .val (.int mm), .unset, .unset, .unset, .unset, .unset, .unset, .unset, .unset, .unset, .unset, .unset, .unset, .unset] [(.int (if (2 : Int32) < sm then sm else (2 : Int32)))]))
          obtain ⟨q, hq⟩ : ∃ z, z = (if (2 : Int32) < sm then sm else (2 : Int32)) := ⟨_, rfl⟩
          rw [← hq]
          show Ends p e below _ (T36.setTop (mkF m 151 #[.val (.int qR), .val (.int iR), .val (.int kR), .val (.int kS), .val (.int md), .val (.double (FP.i2d iR)), .second, .val (.int sm), .val (.int wh), .val (.int mm), .unset, .unset, .unset, .unset, .unset, .unset, .unset, .unset, .unset, .unset, .unset, .unset, .unset] [(.int q)]))
          obtain ⟨v, hv, hv1, hv2⟩ := own_q2 hn hn2 hq
          obtain ⟨⟨zk, hzk⟩, ok, eq⟩ := own_mode3 hv hv1 hv2 hi
          have hnn := Jvm.Free.Fl.dmul_out (Jvm.Free.Fl.i2d_fin (q - (1 : Int32))) hi
          refine Ends.pre (fun tt kt => XS.istore X36.here hx rfl (hb hby at_151) rfl (l' := #[.val (.int qR), .val (.int iR), .val (.int kR), .val (.int kS), .val (.int md), .val (.double (FP.i2d iR)), .second, .val (.int sm), .val (.int wh), .val (.int mm), .val (.int q), .unset, .unset, .unset, .unset, .unset, .unset, .unset, .unset, .unset, .unset, .unset, .unset]) rfl kt) ?_
          show Ends p e below _ (T36.setTop (mkF m 153 #[.val (.int qR), .val (.int iR), .val (.int kR), .val (.int kS), .val (.int md), .val (.double (FP.i2d iR)), .second, .val (.int sm), .val (.int wh), .val (.int mm), .val (.int q), .unset, .unset, .unset, .unset, .unset, .unset, .unset, .unset, .unset, .unset, .unset, .unset] []))
          refine Ends.pre (fun tt kt => XS.iload X36.here hx rfl (hb hby at_153) rfl kt) ?_
          show Ends p e below _ (T36.setTop (mkF m 155 #[.val (.int qR), .val (.int iR), .val (.int kR), .val (.int kS), .val (.int md), .val (.double (FP.i2d iR)), .second, .val (.int sm), .val (.int wh), .val (.int mm), .val (.int q), .unset, .unset, .unset, .unset, .unset, .unset, .unset, .unset, .unset, .unset, .unset, .unset] [(.int q)]))
          refine Ends.pre (fun tt kt => XS.i2dS X36.here hx rfl (v := (FP.i2d q)) (hb hby at_155) rfl rfl kt) ?_
          show Ends p e below _ (T36.setTop (mkF m 156 #[.val (.int qR), .val (.int iR), .val (.int kR), .val (.int kS), .val (.int md), .val (.double (FP.i2d iR)), .second, .val (.int sm), .val (.int wh), .val (.int mm), .val (.int q), .unset, .unset, .unset, .unset, .unset, .unset, .unset, .unset, .unset, .unset, .unset, .unset] [(.double (FP.i2d q))]))
          refine Ends.pre (fun tt kt => XS.iload X36.here hx rfl (hb hby at_156) rfl kt) ?_
          show Ends p e below _ (T36.setTop (mkF m 158 #[.val (.int qR), .val (.int iR), .val (.int kR), .val (.int kS), .val (.int md), .val (.double (FP.i2d iR)), .second, .val (.int sm), .val (.int wh), .val (.int mm), .val (.int q), .unset, .unset, .unset, .unset, .unset, .unset, .unset, .unset, .unset, .unset, .unset, .unset] [(.int q), (.double (FP.i2d q))]))
          refine Ends.pre (fun tt kt => XS.iconst X36.here hx rfl (hb hby at_158) kt) ?_
          show Ends p e below _ (T36.setTop (mkF m 159 #[.val (.int qR), .val (.int iR), .val (.int kR), .val (.int kS), .val (.int md), .val (.double (FP.i2d iR)), .second, .val (.int sm), .val (.int wh), .val (.int mm), .val (.int q), .unset, .unset, .unset, .unset, .unset, .unset, .unset, .unset, .unset, .unset, .unset, .unset] [(.int (2 : Int32)), (.int q), (.double (FP.i2d q))]))
          refine Ends.pre (fun tt kt => XS.isub X36.here hx rfl (hb hby at_159) rfl kt) ?_
          show Ends p e below _ (T36.setTop (mkF m 160 #[.val (.int qR), .val (.int iR), .val (.int kR), .val (.int kS), .val (.int md), .val (.double (FP.i2d iR)), .second, .val (.int sm), .val (.int wh), .val (.int mm), .val (.int q), .unset, .unset, .unset, .unset, .unset, .unset, .unset, .unset, .unset, .unset, .unset, .unset] [(.int (q - (2 : Int32))), (.double (FP.i2d q))]))
          refine Ends.pre (fun tt kt => XS.i2dS X36.here hx rfl (v := (FP.i2d (q - (2 : Int32)))) (hb hby at_160) rfl rfl kt) ?_
          show Ends p e below _ (T36.setTop (mkF m 161 #[.val (.int qR), .val (.int iR), .val (.int kR), .val (.int kS), .val (.int md), .val (.double (FP.i2d iR)), .second, .val (.int sm), .val (.int wh), .val (.int mm), .val (.int q), .unset, .unset, .unset, .unset, .unset, .unset, .unset, .unset, .unset, .unset, .unset, .unset] [(.double (FP.i2d (q - (2 : Int32)))), (.double (FP.i2d q))]))
          refine Ends.pre (fun tt kt => XS.dmulS X36.here hx rfl (v := (FP.dmul (FP.i2d q) (FP.i2d (q - (2 : Int32))))) (hb hby at_161) rfl hzk.noNaN rfl kt) ?_
          show Ends p e below _ (T36.setTop (mkF m 162 #[.val (.int qR), .val (.int iR), .val (.int kR), .val (.int kS), .val (.int md), .val (.double (FP.i2d iR)), .second, .val (.int sm), .val (.int wh), .val (.int mm), .val (.int q), .unset, .unset, .unset, .unset, .unset, .unset, .unset, .unset, .unset, .unset, .unset, .unset] [(.double (FP.dmul (FP.i2d q) (FP.i2d (q - (2 : Int32)))))]))
          refine Ends.pre (fun tt kt => XS.dstore X36.here hx rfl (hb hby at_162) rfl (l' := #[.val (.int qR), .val (.int iR), .val (.int kR), .val (.int kS), .val (.int md), .val (.double (FP.i2d iR)), .second, .val (.int sm), .val (.int wh), .val (.int mm), .val (.int q), .val (.double (FP.dmul (FP.i2d q) (FP.i2d (q - (2 : Int32))))), .second, .unset, .unset, .unset, .unset, .unset, .unset, .unset, .unset, .unset, .unset]) rfl kt) ?_
          show Ends p e below _ (T36.setTop (mkF m 164 #[.val (.int qR), .val (.int iR), .val (.int kR), .val (.int kS), .val (.int md), .val (.double (FP.i2d iR)), .second, .val (.int sm), .val (.int wh), .val (.int mm), .val (.int q), .val (.double (FP.dmul (FP.i2d q) (FP.i2d (q - (2 : Int32))))), .second, .unset, .unset, .unset, .unset, .unset, .unset, .unset, .unset, .unset, .unset] []))
          refine Ends.pre (fun tt kt => XS.dload X36.here hx rfl (hb hby at_164) rfl kt) ?_
          show Ends p e below _ (T36.setTop (mkF m 166 #[.val (.int qR), .val (.int iR), .val (.int kR), .val (.int kS), .val (.int md), .val (.double (FP.i2d iR)), .second, .val (.int sm), .val (.int wh), .val (.int mm), .val (.int q), .val (.double (FP.dmul (FP.i2d q) (FP.i2d (q - (2 : Int32))))), .second, .unset, .unset, .unset, .unset, .unset, .unset, .unset, .unset, .unset, .unset] [(.double (FP.dmul (FP.i2d q) (FP.i2d (q - (2 : Int32)))))]))
          obtain ⟨_, _, ⟨T37, L37, k37, n37⟩, -, X37, ⟨Lc37, hQ37, l37, y37, z37⟩, st37⟩ := Jvm.LawKit.callS X36 hx (y := (⟨"com/example/bare_ranker/bareranker/search/Bm25QueryWeightPinLaw", "make", "(D)Lcom/example/bare_ranker/bareranker/search/Bm25;"⟩ : MethodName)) hown (mvT hZ (hw _ (List.mem_of_getElem? (i := 6) rfl))) (mvT hZ (hw _ (List.mem_of_getElem? (i := 7) rfl))) (mvT hZ (hw _ (List.mem_of_getElem? (i := 8) rfl))) (mvT hZ (hw _ (List.mem_of_getElem? (i := 9) rfl))) (by decide) (backOf (W := 0) (rm2 l Z a0 hw [] am an ai aL aP aA aF (FP.dmul (FP.i2d q) (FP.i2d (q - (2 : Int32)))) h0 n0 Z0 E_am E_an E_ai SL SP SA SF SV SB SI n1 n2 n3 n4 hzk.ge0) hZ (hw _ (List.mem_of_getElem? (i := 9) rfl)) (hw _ (List.mem_of_getElem? (i := 8) rfl)) (by decide) (by decide)) (g := (mkF m 166 #[.val (.int qR), .val (.int iR), .val (.int kR), .val (.int kS), .val (.int md), .val (.double (FP.i2d iR)), .second, .val (.int sm), .val (.int wh), .val (.int mm), .val (.int q), .val (.double (FP.dmul (FP.i2d q) (FP.i2d (q - (2 : Int32))))), .second, .unset, .unset, .unset, .unset, .unset, .unset, .unset, .unset, .unset, .unset] [(.double (FP.dmul (FP.i2d q) (FP.i2d (q - (2 : Int32)))))])) rfl (by rw [hml]; rfl) (argsL := [(.double (FP.dmul (FP.i2d q) (FP.i2d (q - (2 : Int32)))))]) (rest := []) (lenOf pd0_1 rfl) rfl (by show 2 * 0 + _ ≤ _; exact Nat.le_of_eq rfl) (hb hby at_166) (fun _ _ => ⟨rfl, e36, (show (0 : Nat) + (1 : Nat) ≤ _ from by decide), (show (0 : Nat) + (7 : Nat) ≤ _ from by decide)⟩)
          dsimp only [Pt.U, Pt.locs, Pt.cells, Pt.slots] at X37 l37 y37 z37 st37 hQ37
          subst l37 y37 z37
          obtain ⟨rfl, N37q, K37, G37_0, G37_1⟩ := hQ37
          obtain ⟨o37, g37⟩ : ∃ z, z = h0.size := ⟨_, rfl⟩
          rw [← g37] at G37_0 G37_1 st37
          have E_am := E_am.keep K37
          have E_an := E_an.keep K37
          have E_ai := E_ai.keep K37
          have SL := own_sta_keep0 SL K37
          have SP := own_sta_keep0 SP K37
          have SA := own_sta_keep0 SA K37
          have SF := own_sta_keep0 SF K37
          have SV := own_sta_keep0 SV K37
          have SB := own_sta_keep0 SB K37
          have SI := own_sta_keep0 SI K37
          have Z0 := Nat.le_trans Z0 K37.1
          have E_o37 := G37_0
          have F_k3_o37 := G37_1
          have N37 := Fr.app N36 N37q
          refine Ends.pre (fun tt kt => st37 _ kt) ?_
          show Ends p e below _ (T37.setTop (mkF m 169 #[.val (.int qR), .val (.int iR), .val (.int kR), .val (.int kS), .val (.int md), .val (.double (FP.i2d iR)), .second, .val (.int sm), .val (.int wh), .val (.int mm), .val (.int q), .val (.double (FP.dmul (FP.i2d q) (FP.i2d (q - (2 : Int32))))), .second, .unset, .unset, .unset, .unset, .unset, .unset, .unset, .unset, .unset, .unset] [(.ref o37)]))
          refine Ends.pre (fun tt kt => XS.astore X37.here hx rfl (hb hby at_169) rfl rfl (l' := #[.val (.int qR), .val (.int iR), .val (.int kR), .val (.int kS), .val (.int md), .val (.double (FP.i2d iR)), .second, .val (.int sm), .val (.int wh), .val (.int mm), .val (.int q), .val (.double (FP.dmul (FP.i2d q) (FP.i2d (q - (2 : Int32))))), .second, .val (.ref o37), .unset, .unset, .unset, .unset, .unset, .unset, .unset, .unset, .unset]) rfl kt) ?_
          show Ends p e below _ (T37.setTop (mkF m 171 #[.val (.int qR), .val (.int iR), .val (.int kR), .val (.int kS), .val (.int md), .val (.double (FP.i2d iR)), .second, .val (.int sm), .val (.int wh), .val (.int mm), .val (.int q), .val (.double (FP.dmul (FP.i2d q) (FP.i2d (q - (2 : Int32))))), .second, .val (.ref o37), .unset, .unset, .unset, .unset, .unset, .unset, .unset, .unset, .unset] []))
          refine Ends.pre (fun tt kt => XS.aload X37.here hx rfl (hb hby at_171) rfl rfl kt) ?_
          show Ends p e below _ (T37.setTop (mkF m 173 #[.val (.int qR), .val (.int iR), .val (.int kR), .val (.int kS), .val (.int md), .val (.double (FP.i2d iR)), .second, .val (.int sm), .val (.int wh), .val (.int mm), .val (.int q), .val (.double (FP.dmul (FP.i2d q) (FP.i2d (q - (2 : Int32))))), .second, .val (.ref o37), .unset, .unset, .unset, .unset, .unset, .unset, .unset, .unset, .unset] [(.ref o37)]))
          refine Ends.pre (fun tt kt => XS.iload X37.here hx rfl (hb hby at_173) rfl kt) ?_
          show Ends p e below _ (T37.setTop (mkF m 175 #[.val (.int qR), .val (.int iR), .val (.int kR), .val (.int kS), .val (.int md), .val (.double (FP.i2d iR)), .second, .val (.int sm), .val (.int wh), .val (.int mm), .val (.int q), .val (.double (FP.dmul (FP.i2d q) (FP.i2d (q - (2 : Int32))))), .second, .val (.ref o37), .unset, .unset, .unset, .unset, .unset, .unset, .unset, .unset, .unset] [(.int q), (.ref o37)]))
          refine Ends.pre (fun tt kt => XS.dload X37.here hx rfl (hb hby at_175) rfl kt) ?_
          show Ends p e below _ (T37.setTop (mkF m 177 #[.val (.int qR), .val (.int iR), .val (.int kR), .val (.int kS), .val (.int md), .val (.double (FP.i2d iR)), .second, .val (.int sm), .val (.int wh), .val (.int mm), .val (.int q), .val (.double (FP.dmul (FP.i2d q) (FP.i2d (q - (2 : Int32))))), .second, .val (.ref o37), .unset, .unset, .unset, .unset, .unset, .unset, .unset, .unset, .unset] [(.double (FP.i2d iR)), (.int q), (.ref o37)]))
          obtain ⟨cq38, kq38, q38a, q38b, q38c⟩ := isOf hZ rfl E_o37
          obtain ⟨_, _, ⟨T38, L38, k38, n38⟩, -, X38, ⟨Lc38, hQ38, l38, y38, z38⟩, st38⟩ := X37.virtualBack hx (y := (⟨"com/example/bare_ranker/bareranker/search/Bm25", "queryWeight", "(ID)D"⟩ : MethodName)) (z := (⟨"com/example/bare_ranker/bareranker/search/Bm25", "queryWeight", "(ID)D"⟩ : MethodName)) hown (mvT hZ (hw _ (List.mem_of_getElem? (i := 89) rfl))) (mvT hZ (hw _ (List.mem_of_getElem? (i := 90) rfl))) (notFace_of_selects (args := #[]) (mvT hZ (hw _ (List.mem_of_getElem? (i := 92) rfl)))) (mvT hZ (hw _ (List.mem_of_getElem? (i := 92) rfl))) (mvT hZ (hw _ (List.mem_of_getElem? (i := 91) rfl))) (by decide) (backOf (W := 0) (rm12 l Z a0 hw [] o37 q (FP.i2d iR) (FP.dmul (FP.i2d q) (FP.i2d (q - (2 : Int32)))) T37.heap n0 Z0 F_k3_o37 ok) hZ (hw _ (List.mem_of_getElem? (i := 93) rfl)) (hw _ (List.mem_of_getElem? (i := 12) rfl)) (by decide) (by decide)) q38a q38c (g := (mkF m 177 #[.val (.int qR), .val (.int iR), .val (.int kR), .val (.int kS), .val (.int md), .val (.double (FP.i2d iR)), .second, .val (.int sm), .val (.int wh), .val (.int mm), .val (.int q), .val (.double (FP.dmul (FP.i2d q) (FP.i2d (q - (2 : Int32))))), .second, .val (.ref o37), .unset, .unset, .unset, .unset, .unset, .unset, .unset, .unset, .unset] [(.double (FP.i2d iR)), (.int q), (.ref o37)])) rfl (by rw [hml]; rfl) (Steps.refl _) (argsL := [(.int q), (.double (FP.i2d iR))]) (rest := []) (lenOf pd0_2 rfl) rfl (by show 2 * 0 + _ ≤ _; exact Nat.le_of_eq rfl) (hb hby at_177) (fun _ _ => ⟨rfl, rfl, (show (1 : Nat) + (0 : Nat) ≤ _ from by decide), (show (7 : Nat) + (0 : Nat) ≤ _ from by decide)⟩)
          dsimp only [Pt.U, Pt.locs, Pt.cells, Pt.slots] at X38 l38 y38 z38 st38 hQ38
          subst l38 y38 z38
          obtain ⟨rfl, N38q, e38⟩ := hQ38
          have N38 := Fr.app N37 N38q
          refine Ends.pre (fun tt kt => st38.trans kt) ?_
          show Ends p e below _ (T38.setTop (mkF m 180 #[.val (.int qR), .val (.int iR), .val (.int kR), .val (.int kS), .val (.int md), .val (.double (FP.i2d iR)), .second, .val (.int sm), .val (.int wh), .val (.int mm), .val (.int q), .val (.double (FP.dmul (FP.i2d q) (FP.i2d (q - (2 : Int32))))), .second, .val (.ref o37), .unset, .unset, .unset, .unset, .unset, .unset, .unset, .unset, .unset] [(.double (own_qw q (FP.dmul (FP.i2d q) (FP.i2d (q - (2 : Int32)))) (FP.i2d iR)))]))
          rw [show own_qw q (FP.dmul (FP.i2d q) (FP.i2d (q - (2 : Int32)))) (FP.i2d iR) = _ from eq]
          show Ends p e below _ (T38.setTop (mkF m 180 #[.val (.int qR), .val (.int iR), .val (.int kR), .val (.int kS), .val (.int md), .val (.double (FP.i2d iR)), .second, .val (.int sm), .val (.int wh), .val (.int mm), .val (.int q), .val (.double (FP.dmul (FP.i2d q) (FP.i2d (q - (2 : Int32))))), .second, .val (.ref o37), .unset, .unset, .unset, .unset, .unset, .unset, .unset, .unset, .unset] [(.double (FP.dmul (FP.i2d (q - (1 : Int32))) (FP.i2d iR)))]))
          refine Ends.pre (fun tt kt => XS.iload X38.here hx rfl (hb hby at_180) rfl kt) ?_
          show Ends p e below _ (T38.setTop (mkF m 182 #[.val (.int qR), .val (.int iR), .val (.int kR), .val (.int kS), .val (.int md), .val (.double (FP.i2d iR)), .second, .val (.int sm), .val (.int wh), .val (.int mm), .val (.int q), .val (.double (FP.dmul (FP.i2d q) (FP.i2d (q - (2 : Int32))))), .second, .val (.ref o37), .unset, .unset, .unset, .unset, .unset, .unset, .unset, .unset, .unset] [(.int q), (.double (FP.dmul (FP.i2d (q - (1 : Int32))) (FP.i2d iR)))]))
          refine Ends.pre (fun tt kt => XS.iconst X38.here hx rfl (hb hby at_182) kt) ?_
          show Ends p e below _ (T38.setTop (mkF m 183 #[.val (.int qR), .val (.int iR), .val (.int kR), .val (.int kS), .val (.int md), .val (.double (FP.i2d iR)), .second, .val (.int sm), .val (.int wh), .val (.int mm), .val (.int q), .val (.double (FP.dmul (FP.i2d q) (FP.i2d (q - (2 : Int32))))), .second, .val (.ref o37), .unset, .unset, .unset, .unset, .unset, .unset, .unset, .unset, .unset] [(.int (1 : Int32)), (.int q), (.double (FP.dmul (FP.i2d (q - (1 : Int32))) (FP.i2d iR)))]))
          refine Ends.pre (fun tt kt => XS.isub X38.here hx rfl (hb hby at_183) rfl kt) ?_
          show Ends p e below _ (T38.setTop (mkF m 184 #[.val (.int qR), .val (.int iR), .val (.int kR), .val (.int kS), .val (.int md), .val (.double (FP.i2d iR)), .second, .val (.int sm), .val (.int wh), .val (.int mm), .val (.int q), .val (.double (FP.dmul (FP.i2d q) (FP.i2d (q - (2 : Int32))))), .second, .val (.ref o37), .unset, .unset, .unset, .unset, .unset, .unset, .unset, .unset, .unset] [(.int (q - (1 : Int32))), (.double (FP.dmul (FP.i2d (q - (1 : Int32))) (FP.i2d iR)))]))
          refine Ends.pre (fun tt kt => XS.i2dS X38.here hx rfl (v := (FP.i2d (q - (1 : Int32)))) (hb hby at_184) rfl rfl kt) ?_
          show Ends p e below _ (T38.setTop (mkF m 185 #[.val (.int qR), .val (.int iR), .val (.int kR), .val (.int kS), .val (.int md), .val (.double (FP.i2d iR)), .second, .val (.int sm), .val (.int wh), .val (.int mm), .val (.int q), .val (.double (FP.dmul (FP.i2d q) (FP.i2d (q - (2 : Int32))))), .second, .val (.ref o37), .unset, .unset, .unset, .unset, .unset, .unset, .unset, .unset, .unset] [(.double (FP.i2d (q - (1 : Int32)))), (.double (FP.dmul (FP.i2d (q - (1 : Int32))) (FP.i2d iR)))]))
          refine Ends.pre (fun tt kt => XS.dload X38.here hx rfl (hb hby at_185) rfl kt) ?_
          show Ends p e below _ (T38.setTop (mkF m 187 #[.val (.int qR), .val (.int iR), .val (.int kR), .val (.int kS), .val (.int md), .val (.double (FP.i2d iR)), .second, .val (.int sm), .val (.int wh), .val (.int mm), .val (.int q), .val (.double (FP.dmul (FP.i2d q) (FP.i2d (q - (2 : Int32))))), .second, .val (.ref o37), .unset, .unset, .unset, .unset, .unset, .unset, .unset, .unset, .unset] [(.double (FP.i2d iR)), (.double (FP.i2d (q - (1 : Int32)))), (.double (FP.dmul (FP.i2d (q - (1 : Int32))) (FP.i2d iR)))]))
          refine Ends.pre (fun tt kt => XS.dmulS X38.here hx rfl (v := (FP.dmul (FP.i2d (q - (1 : Int32))) (FP.i2d iR))) (hb hby at_187) rfl hnn rfl kt) ?_
          show Ends p e below _ (T38.setTop (mkF m 188 #[.val (.int qR), .val (.int iR), .val (.int kR), .val (.int kS), .val (.int md), .val (.double (FP.i2d iR)), .second, .val (.int sm), .val (.int wh), .val (.int mm), .val (.int q), .val (.double (FP.dmul (FP.i2d q) (FP.i2d (q - (2 : Int32))))), .second, .val (.ref o37), .unset, .unset, .unset, .unset, .unset, .unset, .unset, .unset, .unset] [(.double (FP.dmul (FP.i2d (q - (1 : Int32))) (FP.i2d iR))), (.double (FP.dmul (FP.i2d (q - (1 : Int32))) (FP.i2d iR)))]))
          refine Ends.pre (fun tt kt => XS.dcmpS X38.here hx rfl (v := (0 : Int32)) (hb hby at_188) rfl (dcmpV_self hnn .l) kt) ?_
          show Ends p e below _ (T38.setTop (mkF m 189 #[.val (.int qR), .val (.int iR), .val (.int kR), .val (.int kS), .val (.int md), .val (.double (FP.i2d iR)), .second, .val (.int sm), .val (.int wh), .val (.int mm), .val (.int q), .val (.double (FP.dmul (FP.i2d q) (FP.i2d (q - (2 : Int32))))), .second, .val (.ref o37), .unset, .unset, .unset, .unset, .unset, .unset, .unset, .unset, .unset] [(.int (0 : Int32))]))
          refine Ends.pre (fun tt kt => XS.ifNo X38.here hx rfl (hb hby at_189) rfl ((if0 _ _).trans (teq rfl).2) kt) ?_
          show Ends p e below _ (T38.setTop (mkF m 192 #[.val (.int qR), .val (.int iR), .val (.int kR), .val (.int kS), .val (.int md), .val (.double (FP.i2d iR)), .second, .val (.int sm), .val (.int wh), .val (.int mm), .val (.int q), .val (.double (FP.dmul (FP.i2d q) (FP.i2d (q - (2 : Int32))))), .second, .val (.ref o37), .unset, .unset, .unset, .unset, .unset, .unset, .unset, .unset, .unset] []))
          refine Ends.pre (fun tt kt => XS.iconst X38.here hx rfl (hb hby at_192) kt) ?_
          show Ends p e below _ (T38.setTop (mkF m 193 #[.val (.int qR), .val (.int iR), .val (.int kR), .val (.int kS), .val (.int md), .val (.double (FP.i2d iR)), .second, .val (.int sm), .val (.int wh), .val (.int mm), .val (.int q), .val (.double (FP.dmul (FP.i2d q) (FP.i2d (q - (2 : Int32))))), .second, .val (.ref o37), .unset, .unset, .unset, .unset, .unset, .unset, .unset, .unset, .unset] [(.int (1 : Int32))]))
          refine Ends.pre (fun tt kt => XS.goto X38.here hx rfl (pc0 := 193) (pc' := 197) rfl (hb hby at_193) (by decide) (by decide) kt) ?_
          show Ends p e below _ (T38.setTop (mkF m 197 #[.val (.int qR), .val (.int iR), .val (.int kR), .val (.int kS), .val (.int md), .val (.double (FP.i2d iR)), .second, .val (.int sm), .val (.int wh), .val (.int mm), .val (.int q), .val (.double (FP.dmul (FP.i2d q) (FP.i2d (q - (2 : Int32))))), .second, .val (.ref o37), .unset, .unset, .unset, .unset, .unset, .unset, .unset, .unset, .unset] [(.int (1 : Int32))]))
          obtain ⟨fs, hr, hrun, hended, hW, hsame⟩ := X38.leave (v := some (.int (1 : Int32))) (fun h => by rw [Bd.returns] at h; cases h)
          refine ⟨_, _, retN X38 hx (t := .boolean) Bd.returns (by simp) (hb hby at_197) hr, hrun, hended, _, _, rfl, ?_, ⟨_, rfl⟩, hW, hsame.mono (by decide) (by decide)⟩
          show Q0 Z _ _ _ _ _ _ _ _ _ _ _ _ h0 n0 _ T38.heap _
          rw [e38]
          exact ⟨rfl, N38⟩
        ·
          refine Ends.pre (fun tt kt => XS.icmpYes X29.here hx rfl (pc0 := 142) (pc' := 198) rfl (hb hby at_142) rfl (feq c3).2 (by decide) (by decide) kt) ?_
          show Ends p e below _ (T29.setTop (mkF m 198 #[.val (.int qR), .val (.int iR), .val (.int kR), .val (.int kS), .val (.int md), .val (.double (FP.i2d iR)), .second, .val (.int sm), .val (.int wh), .val (.int mm), .unset, .unset, .unset, .unset, .unset, .unset, .unset, .unset, .unset, .unset, .unset, .unset, .unset] []))
          refine Ends.pre (fun tt kt => XS.iloadN X29.here hx rfl (hb hby at_198) rfl kt) ?_
          show Ends p e below _ (T29.setTop (mkF m 199 #[.val (.int qR), .val (.int iR), .val (.int kR), .val (.int kS), .val (.int md), .val (.double (FP.i2d iR)), .second, .val (.int sm), .val (.int wh), .val (.int mm), .unset, .unset, .unset, .unset, .unset, .unset, .unset, .unset, .unset, .unset, .unset, .unset, .unset] [(.int kR)]))
          refine Ends.pre (fun tt kt => X29.ldcInt hx hown (mvT hZ (hw _ (List.mem_of_getElem? (i := 1) rfl))) (g := (mkF m 199 #[.val (.int qR), .val (.int iR), .val (.int kR), .val (.int kS), .val (.int md), .val (.double (FP.i2d iR)), .second, .val (.int sm), .val (.int wh), .val (.int mm), .unset, .unset, .unset, .unset, .unset, .unset, .unset, .unset, .unset, .unset, .unset, .unset, .unset] [(.int kR)])) rfl (hb hby at_199) _ kt) ?_
          show Ends p e below _ (T29.setTop (mkF m 201 #[.val (.int qR), .val (.int iR), .val (.int kR), .val (.int kS), .val (.int md), .val (.double (FP.i2d iR)), .second, .val (.int sm), .val (.int wh), .val (.int mm), .unset, .unset, .unset, .unset, .unset, .unset, .unset, .unset, .unset, .unset, .unset, .unset, .unset] [(.int (2147483647 : Int32)), (.int kR)]))
          refine Ends.pre (fun tt kt => XS.iand X29.here hx rfl (hb hby at_201) rfl kt) ?_
          show Ends p e below _ (T29.setTop (mkF m 202 #[.val (.int qR), .val (.int iR), .val (.int kR), .val (.int kS), .val (.int md), .val (.double (FP.i2d iR)), .second, .val (.int sm), .val (.int wh), .val (.int mm), .unset, .unset, .unset, .unset, .unset, .unset, .unset, .unset, .unset, .unset, .unset, .unset, .unset] [(.int (kR &&& (2147483647 : Int32)))]))
          obtain ⟨A, hA⟩ : ∃ z, z = (kR &&& (2147483647 : Int32)) := ⟨_, rfl⟩
          rw [← hA]
          show Ends p e below _ (T29.setTop (mkF m 202 #[.val (.int qR), .val (.int iR), .val (.int kR), .val (.int kS), .val (.int md), .val (.double (FP.i2d iR)), .second, .val (.int sm), .val (.int wh), .val (.int mm), .unset, .unset, .unset, .unset, .unset, .unset, .unset, .unset, .unset, .unset, .unset, .unset, .unset] [(.int A)]))
          obtain ⟨aN, haN, haB⟩ := own_k hA
          refine Ends.pre (fun tt kt => XS.i2dS X29.here hx rfl (v := (FP.l2d (A.toInt64))) (hb hby at_202) rfl (i2d_w A) kt) ?_
          show Ends p e below _ (T29.setTop (mkF m 203 #[.val (.int qR), .val (.int iR), .val (.int kR), .val (.int kS), .val (.int md), .val (.double (FP.i2d iR)), .second, .val (.int sm), .val (.int wh), .val (.int mm), .unset, .unset, .unset, .unset, .unset, .unset, .unset, .unset, .unset, .unset, .unset, .unset, .unset] [(.double (FP.l2d (A.toInt64)))]))
          refine Ends.pre (fun tt kt => XS.dstore X29.here hx rfl (hb hby at_203) rfl (l' := #[.val (.int qR), .val (.int iR), .val (.int kR), .val (.int kS), .val (.int md), .val (.double (FP.i2d iR)), .second, .val (.int sm), .val (.int wh), .val (.int mm), .val (.double (FP.l2d (A.toInt64))), .second, .unset, .unset, .unset, .unset, .unset, .unset, .unset, .unset, .unset, .unset, .unset]) rfl kt) ?_
          show Ends p e below _ (T29.setTop (mkF m 205 #[.val (.int qR), .val (.int iR), .val (.int kR), .val (.int kS), .val (.int md), .val (.double (FP.i2d iR)), .second, .val (.int sm), .val (.int wh), .val (.int mm), .val (.double (FP.l2d (A.toInt64))), .second, .unset, .unset, .unset, .unset, .unset, .unset, .unset, .unset, .unset, .unset, .unset] []))
          refine Ends.pre (fun tt kt => XS.dload X29.here hx rfl (hb hby at_205) rfl kt) ?_
          show Ends p e below _ (T29.setTop (mkF m 207 #[.val (.int qR), .val (.int iR), .val (.int kR), .val (.int kS), .val (.int md), .val (.double (FP.i2d iR)), .second, .val (.int sm), .val (.int wh), .val (.int mm), .val (.double (FP.l2d (A.toInt64))), .second, .unset, .unset, .unset, .unset, .unset, .unset, .unset, .unset, .unset, .unset, .unset] [(.double (FP.l2d (A.toInt64)))]))
          refine Ends.pre (fun tt kt => XS.iloadN X29.here hx rfl (hb hby at_207) rfl kt) ?_
          show Ends p e below _ (T29.setTop (mkF m 208 #[.val (.int qR), .val (.int iR), .val (.int kR), .val (.int kS), .val (.int md), .val (.double (FP.i2d iR)), .second, .val (.int sm), .val (.int wh), .val (.int mm), .val (.double (FP.l2d (A.toInt64))), .second, .unset, .unset, .unset, .unset, .unset, .unset, .unset, .unset, .unset, .unset, .unset] [(.int kS), (.double (FP.l2d (A.toInt64)))]))
          refine Ends.pre (fun tt kt => X29.ldcInt hx hown (mvT hZ (hw _ (List.mem_of_getElem? (i := 1) rfl))) (g := (mkF m 208 #[.val (.int qR), .val (.int iR), .val (.int kR), .val (.int kS), .val (.int md), .val (.double (FP.i2d iR)), .second, .val (.int sm), .val (.int wh), .val (.int mm), .val (.double (FP.l2d (A.toInt64))), .second, .unset, .unset, .unset, .unset, .unset, .unset, .unset, .unset, .unset, .unset, .unset] [(.int kS), (.double (FP.l2d (A.toInt64)))])) rfl (hb hby at_208) _ kt) ?_
          show Ends p e below _ (T29.setTop (mkF m 210 #[.val (.int qR), .val (.int iR), .val (.int kR), .val (.int kS), .val (.int md), .val (.double (FP.i2d iR)), .second, .val (.int sm), .val (.int wh), .val (.int mm), .val (.double (FP.l2d (A.toInt64))), .second, .unset, .unset, .unset, .unset, .unset, .unset, .unset, .unset, .unset, .unset, .unset] [(.int (2147483647 : Int32)), (.int kS), (.double (FP.l2d (A.toInt64)))]))
          refine Ends.pre (fun tt kt => XS.iand X29.here hx rfl (hb hby at_210) rfl kt) ?_
          show Ends p e below _ (T29.setTop (mkF m 211 #[.val (.int qR), .val (.int iR), .val (.int kR), .val (.int kS), .val (.int md), .val (.double (FP.i2d iR)), .second, .val (.int sm), .val (.int wh), .val (.int mm), .val (.double (FP.l2d (A.toInt64))), .second, .unset, .unset, .unset, .unset, .unset, .unset, .unset, .unset, .unset, .unset, .unset] [(.int (kS &&& (2147483647 : Int32))), (.double (FP.l2d (A.toInt64)))]))
          obtain ⟨B, hB⟩ : ∃ z, z = (kS &&& (2147483647 : Int32)) := ⟨_, rfl⟩
          rw [← hB]
          show Ends p e below _ (T29.setTop (mkF m 211 #[.val (.int qR), .val (.int iR), .val (.int kR), .val (.int kS), .val (.int md), .val (.double (FP.i2d iR)), .second, .val (.int sm), .val (.int wh), .val (.int mm), .val (.double (FP.l2d (A.toInt64))), .second, .unset, .unset, .unset, .unset, .unset, .unset, .unset, .unset, .unset, .unset, .unset] [(.int B), (.double (FP.l2d (A.toInt64)))]))
          obtain ⟨bN, hbN, hbB⟩ := own_k hB
          obtain ⟨eS, hS⟩ := own_sum haN hbN haB hbB
          have hA64 : (A.toInt64).toInt = aN := by rw [c_i2l]; exact haN
          obtain ⟨okA, okB, hpos, hneg⟩ := own_mode4 (I := iR) hn hn1 hn2 hA64 hS (Nat.le_add_right aN bN) (by omega)
          have hnn := Jvm.Free.Fl.dmul_out (Jvm.Free.Fl.i2d_fin sm) hi
          refine Ends.pre (fun tt kt => XS.i2dS X29.here hx rfl (v := (FP.l2d (B.toInt64))) (hb hby at_211) rfl (i2d_w B) kt) ?_
          show Ends p e below _ (T29.setTop (mkF m 212 #[.val (.int qR), .val (.int iR), .val (.int kR), .val (.int kS), .val (.int md), .val (.double (FP.i2d iR)), .second, .val (.int sm), .val (.int wh), .val (.int mm), .val (.double (FP.l2d (A.toInt64))), .second, .unset, .unset, .unset, .unset, .unset, .unset, .unset, .unset, .unset, .unset, .unset] [(.double (FP.l2d (B.toInt64))), (.double (FP.l2d (A.toInt64)))]))
          refine Ends.pre (fun tt kt => XS.daddS X29.here hx rfl (v := (FP.l2d (A.toInt64 + B.toInt64))) (hb hby at_212) rfl (nn_w eS) eS kt) ?_
          show Ends p e below _ (T29.setTop (mkF m 213 #[.val (.int qR), .val (.int iR), .val (.int kR), .val (.int kS), .val (.int md), .val (.double (FP.i2d iR)), .second, .val (.int sm), .val (.int wh), .val (.int mm), .val (.double (FP.l2d (A.toInt64))), .second, .unset, .unset, .unset, .unset, .unset, .unset, .unset, .unset, .unset, .unset, .unset] [(.double (FP.l2d (A.toInt64 + B.toInt64)))]))
          refine Ends.pre (fun tt kt => XS.dstore X29.here hx rfl (hb hby at_213) rfl (l' := #[.val (.int qR), .val (.int iR), .val (.int kR), .val (.int kS), .val (.int md), .val (.double (FP.i2d iR)), .second, .val (.int sm), .val (.int wh), .val (.int mm), .val (.double (FP.l2d (A.toInt64))), .second, .val (.double (FP.l2d (A.toInt64 + B.toInt64))), .second, .unset, .unset, .unset, .unset, .unset, .unset, .unset, .unset, .unset]) rfl kt) ?_
          show Ends p e below _ (T29.setTop (mkF m 215 #[.val (.int qR), .val (.int iR), .val (.int kR), .val (.int kS), .val (.int md), .val (.double (FP.i2d iR)), .second, .val (.int sm), .val (.int wh), .val (.int mm), .val (.double (FP.l2d (A.toInt64))), .second, .val (.double (FP.l2d (A.toInt64 + B.toInt64))), .second, .unset, .unset, .unset, .unset, .unset, .unset, .unset, .unset, .unset] []))
          refine Ends.pre (fun tt kt => XS.dload X29.here hx rfl (hb hby at_215) rfl kt) ?_
          show Ends p e below _ (T29.setTop (mkF m 217 #[.val (.int qR), .val (.int iR), .val (.int kR), .val (.int kS), .val (.int md), .val (.double (FP.i2d iR)), .second, .val (.int sm), .val (.int wh), .val (.int mm), .val (.double (FP.l2d (A.toInt64))), .second, .val (.double (FP.l2d (A.toInt64 + B.toInt64))), .second, .unset, .unset, .unset, .unset, .unset, .unset, .unset, .unset, .unset] [(.double (FP.l2d (A.toInt64)))]))
          obtain ⟨_, _, ⟨T39, L39, k39, n39⟩, -, X39, ⟨Lc39, hQ39, l39, y39, z39⟩, st39⟩ := Jvm.LawKit.callS X29 hx (y := (⟨"com/example/bare_ranker/bareranker/search/Bm25QueryWeightPinLaw", "make", "(D)Lcom/example/bare_ranker/bareranker/search/Bm25;"⟩ : MethodName)) hown (mvT hZ (hw _ (List.mem_of_getElem? (i := 6) rfl))) (mvT hZ (hw _ (List.mem_of_getElem? (i := 7) rfl))) (mvT hZ (hw _ (List.mem_of_getElem? (i := 8) rfl))) (mvT hZ (hw _ (List.mem_of_getElem? (i := 9) rfl))) (by decide) (backOf (W := 0) (rm2 l Z a0 hw [] am an ai aL aP aA aF (FP.l2d (A.toInt64)) h0 n0 Z0 E_am E_an E_ai SL SP SA SF SV SB SI n1 n2 n3 n4 (own_l2d hA64 (by omega)).ge0) hZ (hw _ (List.mem_of_getElem? (i := 9) rfl)) (hw _ (List.mem_of_getElem? (i := 8) rfl)) (by decide) (by decide)) (g := (mkF m 217 #[.val (.int qR), .val (.int iR), .val (.int kR), .val (.int kS), .val (.int md), .val (.double (FP.i2d iR)), .second, .val (.int sm), .val (.int wh), .val (.int mm), .val (.double (FP.l2d (A.toInt64))), .second, .val (.double (FP.l2d (A.toInt64 + B.toInt64))), .second, .unset, .unset, .unset, .unset, .unset, .unset, .unset, .unset, .unset] [(.double (FP.l2d (A.toInt64)))])) rfl (by rw [hml]; rfl) (argsL := [(.double (FP.l2d (A.toInt64)))]) (rest := []) (lenOf pd0_1 rfl) rfl (by show 2 * 0 + _ ≤ _; exact Nat.le_of_eq rfl) (hb hby at_217) (fun _ _ => ⟨rfl, e29, (show (0 : Nat) + (1 : Nat) ≤ _ from by decide), (show (0 : Nat) + (7 : Nat) ≤ _ from by decide)⟩)
          dsimp only [Pt.U, Pt.locs, Pt.cells, Pt.slots] at X39 l39 y39 z39 st39 hQ39
          subst l39 y39 z39
          obtain ⟨rfl, N39q, K39, G39_0, G39_1⟩ := hQ39
          obtain ⟨o39, g39⟩ : ∃ z, z = h0.size := ⟨_, rfl⟩
          rw [← g39] at G39_0 G39_1 st39
          have E_am := E_am.keep K39
          have E_an := E_an.keep K39
          have E_ai := E_ai.keep K39
          have SL := own_sta_keep0 SL K39
          have SP := own_sta_keep0 SP K39
          have SA := own_sta_keep0 SA K39
          have SF := own_sta_keep0 SF K39
          have SV := own_sta_keep0 SV K39
          have SB := own_sta_keep0 SB K39
          have SI := own_sta_keep0 SI K39
          have Z0 := Nat.le_trans Z0 K39.1
          have E_o39 := G39_0
          have F_k3_o39 := G39_1
          have N39 := Fr.app N29 N39q
          refine Ends.pre (fun tt kt => st39 _ kt) ?_
          show Ends p e below _ (T39.setTop (mkF m 220 #[.val (.int qR), .val (.int iR), .val (.int kR), .val (.int kS), .val (.int md), .val (.double (FP.i2d iR)), .second, .val (.int sm), .val (.int wh), .val (.int mm), .val (.double (FP.l2d (A.toInt64))), .second, .val (.double (FP.l2d (A.toInt64 + B.toInt64))), .second, .unset, .unset, .unset, .unset, .unset, .unset, .unset, .unset, .unset] [(.ref o39)]))
          refine Ends.pre (fun tt kt => XS.astore X39.here hx rfl (hb hby at_220) rfl rfl (l' := #[.val (.int qR), .val (.int iR), .val (.int kR), .val (.int kS), .val (.int md), .val (.double (FP.i2d iR)), .second, .val (.int sm), .val (.int wh), .val (.int mm), .val (.double (FP.l2d (A.toInt64))), .second, .val (.double (FP.l2d (A.toInt64 + B.toInt64))), .second, .val (.ref o39), .unset, .unset, .unset, .unset, .unset, .unset, .unset, .unset]) rfl kt) ?_
          show Ends p e below _ (T39.setTop (mkF m 222 #[.val (.int qR), .val (.int iR), .val (.int kR), .val (.int kS), .val (.int md), .val (.double (FP.i2d iR)), .second, .val (.int sm), .val (.int wh), .val (.int mm), .val (.double (FP.l2d (A.toInt64))), .second, .val (.double (FP.l2d (A.toInt64 + B.toInt64))), .second, .val (.ref o39), .unset, .unset, .unset, .unset, .unset, .unset, .unset, .unset] []))
          refine Ends.pre (fun tt kt => XS.dload X39.here hx rfl (hb hby at_222) rfl kt) ?_
          show Ends p e below _ (T39.setTop (mkF m 224 #[.val (.int qR), .val (.int iR), .val (.int kR), .val (.int kS), .val (.int md), .val (.double (FP.i2d iR)), .second, .val (.int sm), .val (.int wh), .val (.int mm), .val (.double (FP.l2d (A.toInt64))), .second, .val (.double (FP.l2d (A.toInt64 + B.toInt64))), .second, .val (.ref o39), .unset, .unset, .unset, .unset, .unset, .unset, .unset, .unset] [(.double (FP.l2d (A.toInt64 + B.toInt64)))]))
          obtain ⟨_, _, ⟨T40, L40, k40, n40⟩, -, X40, ⟨Lc40, hQ40, l40, y40, z40⟩, st40⟩ := Jvm.LawKit.callS X39 hx (y := (⟨"com/example/bare_ranker/bareranker/search/Bm25QueryWeightPinLaw", "make", "(D)Lcom/example/bare_ranker/bareranker/search/Bm25;"⟩ : MethodName)) hown (mvT hZ (hw _ (List.mem_of_getElem? (i := 6) rfl))) (mvT hZ (hw _ (List.mem_of_getElem? (i := 7) rfl))) (mvT hZ (hw _ (List.mem_of_getElem? (i := 8) rfl))) (mvT hZ (hw _ (List.mem_of_getElem? (i := 9) rfl))) (by decide) (backOf (W := 0) (rm2 l Z a0 hw [] am an ai aL aP aA aF (FP.l2d (A.toInt64 + B.toInt64)) T39.heap n0 Z0 E_am E_an E_ai SL SP SA SF SV SB SI n1 n2 n3 n4 (own_l2d hS (by omega)).ge0) hZ (hw _ (List.mem_of_getElem? (i := 9) rfl)) (hw _ (List.mem_of_getElem? (i := 8) rfl)) (by decide) (by decide)) (g := (mkF m 224 #[.val (.int qR), .val (.int iR), .val (.int kR), .val (.int kS), .val (.int md), .val (.double (FP.i2d iR)), .second, .val (.int sm), .val (.int wh), .val (.int mm), .val (.double (FP.l2d (A.toInt64))), .second, .val (.double (FP.l2d (A.toInt64 + B.toInt64))), .second, .val (.ref o39), .unset, .unset, .unset, .unset, .unset, .unset, .unset, .unset] [(.double (FP.l2d (A.toInt64 + B.toInt64)))])) rfl (by rw [hml]; rfl) (argsL := [(.double (FP.l2d (A.toInt64 + B.toInt64)))]) (rest := []) (lenOf pd0_1 rfl) rfl (by show 2 * 0 + _ ≤ _; exact Nat.le_of_eq rfl) (hb hby at_224) (fun _ _ => ⟨rfl, rfl, (show (1 : Nat) + (1 : Nat) ≤ _ from by decide), (show (7 : Nat) + (7 : Nat) ≤ _ from by decide)⟩)
          dsimp only [Pt.U, Pt.locs, Pt.cells, Pt.slots] at X40 l40 y40 z40 st40 hQ40
          subst l40 y40 z40
          obtain ⟨rfl, N40q, K40, G40_0, G40_1⟩ := hQ40
          obtain ⟨o40, g40⟩ : ∃ z, z = T39.heap.size := ⟨_, rfl⟩
          rw [← g40] at G40_0 G40_1 st40
          have E_am := E_am.keep K40
          have E_an := E_an.keep K40
          have E_ai := E_ai.keep K40
          have SL := own_sta_keep0 SL K40
          have SP := own_sta_keep0 SP K40
          have SA := own_sta_keep0 SA K40
          have SF := own_sta_keep0 SF K40
          have SV := own_sta_keep0 SV K40
          have SB := own_sta_keep0 SB K40
          have SI := own_sta_keep0 SI K40
          have E_o39 := E_o39.keep K40
          have F_k3_o39 := F_k3_o39.keep K40 nin0
          have Z0 := Nat.le_trans Z0 K40.1
          have E_o40 := G40_0
          have F_k3_o40 := G40_1
          have N40 := Fr.app N39 N40q
          refine Ends.pre (fun tt kt => st40 _ kt) ?_
          show Ends p e below _ (T40.setTop (mkF m 227 #[.val (.int qR), .val (.int iR), .val (.int kR), .val (.int kS), .val (.int md), .val (.double (FP.i2d iR)), .second, .val (.int sm), .val (.int wh), .val (.int mm), .val (.double (FP.l2d (A.toInt64))), .second, .val (.double (FP.l2d (A.toInt64 + B.toInt64))), .second, .val (.ref o39), .unset, .unset, .unset, .unset, .unset, .unset, .unset, .unset] [(.ref o40)]))
          refine Ends.pre (fun tt kt => XS.astore X40.here hx rfl (hb hby at_227) rfl rfl (l' := #[.val (.int qR), .val (.int iR), .val (.int kR), .val (.int kS), .val (.int md), .val (.double (FP.i2d iR)), .second, .val (.int sm), .val (.int wh), .val (.int mm), .val (.double (FP.l2d (A.toInt64))), .second, .val (.double (FP.l2d (A.toInt64 + B.toInt64))), .second, .val (.ref o39), .val (.ref o40), .unset, .unset, .unset, .unset, .unset, .unset, .unset]) rfl kt) ?_
          show Ends p e below _ (T40.setTop (mkF m 229 #[.val (.int qR), .val (.int iR), .val (.int kR), .val (.int kS), .val (.int md), .val (.double (FP.i2d iR)), .second, .val (.int sm), .val (.int wh), .val (.int mm), .val (.double (FP.l2d (A.toInt64))), .second, .val (.double (FP.l2d (A.toInt64 + B.toInt64))), .second, .val (.ref o39), .val (.ref o40), .unset, .unset, .unset, .unset, .unset, .unset, .unset] []))
          refine Ends.pre (fun tt kt => XS.aload X40.here hx rfl (hb hby at_229) rfl rfl kt) ?_
          show Ends p e below _ (T40.setTop (mkF m 231 #[.val (.int qR), .val (.int iR), .val (.int kR), .val (.int kS), .val (.int md), .val (.double (FP.i2d iR)), .second, .val (.int sm), .val (.int wh), .val (.int mm), .val (.double (FP.l2d (A.toInt64))), .second, .val (.double (FP.l2d (A.toInt64 + B.toInt64))), .second, .val (.ref o39), .val (.ref o40), .unset, .unset, .unset, .unset, .unset, .unset, .unset] [(.ref o39)]))
          refine Ends.pre (fun tt kt => XS.iload X40.here hx rfl (hb hby at_231) rfl kt) ?_
          show Ends p e below _ (T40.setTop (mkF m 233 #[.val (.int qR), .val (.int iR), .val (.int kR), .val (.int kS), .val (.int md), .val (.double (FP.i2d iR)), .second, .val (.int sm), .val (.int wh), .val (.int mm), .val (.double (FP.l2d (A.toInt64))), .second, .val (.double (FP.l2d (A.toInt64 + B.toInt64))), .second, .val (.ref o39), .val (.ref o40), .unset, .unset, .unset, .unset, .unset, .unset, .unset] [(.int sm), (.ref o39)]))
          refine Ends.pre (fun tt kt => XS.dload X40.here hx rfl (hb hby at_233) rfl kt) ?_
          show Ends p e below _ (T40.setTop (mkF m 235 #[.val (.int qR), .val (.int iR), .val (.int kR), .val (.int kS), .val (.int md), .val (.double (FP.i2d iR)), .second, .val (.int sm), .val (.int wh), .val (.int mm), .val (.double (FP.l2d (A.toInt64))), .second, .val (.double (FP.l2d (A.toInt64 + B.toInt64))), .second, .val (.ref o39), .val (.ref o40), .unset, .unset, .unset, .unset, .unset, .unset, .unset] [(.double (FP.i2d iR)), (.int sm), (.ref o39)]))
          obtain ⟨cq41, kq41, q41a, q41b, q41c⟩ := isOf hZ rfl E_o39
          obtain ⟨_, _, ⟨T41, L41, k41, n41⟩, -, X41, ⟨Lc41, hQ41, l41, y41, z41⟩, st41⟩ := X40.virtualBack hx (y := (⟨"com/example/bare_ranker/bareranker/search/Bm25", "queryWeight", "(ID)D"⟩ : MethodName)) (z := (⟨"com/example/bare_ranker/bareranker/search/Bm25", "queryWeight", "(ID)D"⟩ : MethodName)) hown (mvT hZ (hw _ (List.mem_of_getElem? (i := 89) rfl))) (mvT hZ (hw _ (List.mem_of_getElem? (i := 90) rfl))) (notFace_of_selects (args := #[]) (mvT hZ (hw _ (List.mem_of_getElem? (i := 92) rfl)))) (mvT hZ (hw _ (List.mem_of_getElem? (i := 92) rfl))) (mvT hZ (hw _ (List.mem_of_getElem? (i := 91) rfl))) (by decide) (backOf (W := 0) (rm12 l Z a0 hw [] o39 sm (FP.i2d iR) (FP.l2d (A.toInt64)) T40.heap n0 Z0 F_k3_o39 okA) hZ (hw _ (List.mem_of_getElem? (i := 93) rfl)) (hw _ (List.mem_of_getElem? (i := 12) rfl)) (by decide) (by decide)) q41a q41c (g := (mkF m 235 #[.val (.int qR), .val (.int iR), .val (.int kR), .val (.int kS), .val (.int md), .val (.double (FP.i2d iR)), .second, .val (.int sm), .val (.int wh), .val (.int mm), .val (.double (FP.l2d (A.toInt64))), .second, .val (.double (FP.l2d (A.toInt64 + B.toInt64))), .second, .val (.ref o39), .val (.ref o40), .unset, .unset, .unset, .unset, .unset, .unset, .unset] [(.double (FP.i2d iR)), (.int sm), (.ref o39)])) rfl (by rw [hml]; rfl) (Steps.refl _) (argsL := [(.int sm), (.double (FP.i2d iR))]) (rest := []) (lenOf pd0_2 rfl) rfl (by show 2 * 0 + _ ≤ _; exact Nat.le_of_eq rfl) (hb hby at_235) (fun _ _ => ⟨rfl, rfl, (show (2 : Nat) + (0 : Nat) ≤ _ from by decide), (show (14 : Nat) + (0 : Nat) ≤ _ from by decide)⟩)
          dsimp only [Pt.U, Pt.locs, Pt.cells, Pt.slots] at X41 l41 y41 z41 st41 hQ41
          subst l41 y41 z41
          obtain ⟨rfl, N41q, e41⟩ := hQ41
          have N41 := Fr.app N40 N41q
          refine Ends.pre (fun tt kt => st41.trans kt) ?_
          show Ends p e below _ (T41.setTop (mkF m 238 #[.val (.int qR), .val (.int iR), .val (.int kR), .val (.int kS), .val (.int md), .val (.double (FP.i2d iR)), .second, .val (.int sm), .val (.int wh), .val (.int mm), .val (.double (FP.l2d (A.toInt64))), .second, .val (.double (FP.l2d (A.toInt64 + B.toInt64))), .second, .val (.ref o39), .val (.ref o40), .unset, .unset, .unset, .unset, .unset, .unset, .unset] [(.double (own_qw sm (FP.l2d (A.toInt64)) (FP.i2d iR)))]))
          refine Ends.pre (fun tt kt => XS.dstore X41.here hx rfl (hb hby at_238) rfl (l' := #[.val (.int qR), .val (.int iR), .val (.int kR), .val (.int kS), .val (.int md), .val (.double (FP.i2d iR)), .second, .val (.int sm), .val (.int wh), .val (.int mm), .val (.double (FP.l2d (A.toInt64))), .second, .val (.double (FP.l2d (A.toInt64 + B.toInt64))), .second, .val (.ref o39), .val (.ref o40), .val (.double (own_qw sm (FP.l2d (A.toInt64)) (FP.i2d iR))), .second, .unset, .unset, .unset, .unset, .unset]) rfl kt) ?_
          show Ends p e below _ (T41.setTop (mkF m 240 #[.val (.int qR), .val (.int iR), .val (.int kR), .val (.int kS), .val (.int md), .val (.double (FP.i2d iR)), .second, .val (.int sm), .val (.int wh), .val (.int mm), .val (.double (FP.l2d (A.toInt64))), .second, .val (.double (FP.l2d (A.toInt64 + B.toInt64))), .second, .val (.ref o39), .val (.ref o40), .val (.double (own_qw sm (FP.l2d (A.toInt64)) (FP.i2d iR))), .second, .unset, .unset, .unset, .unset, .unset] []))
          refine Ends.pre (fun tt kt => XS.aload X41.here hx rfl (hb hby at_240) rfl rfl kt) ?_
          show Ends p e below _ (T41.setTop (mkF m 242 #[.val (.int qR), .val (.int iR), .val (.int kR), .val (.int kS), .val (.int md), .val (.double (FP.i2d iR)), .second, .val (.int sm), .val (.int wh), .val (.int mm), .val (.double (FP.l2d (A.toInt64))), .second, .val (.double (FP.l2d (A.toInt64 + B.toInt64))), .second, .val (.ref o39), .val (.ref o40), .val (.double (own_qw sm (FP.l2d (A.toInt64)) (FP.i2d iR))), .second, .unset, .unset, .unset, .unset, .unset] [(.ref o40)]))
          refine Ends.pre (fun tt kt => XS.iload X41.here hx rfl (hb hby at_242) rfl kt) ?_
          show Ends p e below _ (T41.setTop (mkF m 244 #[.val (.int qR), .val (.int iR), .val (.int kR), .val (.int kS), .val (.int md), .val (.double (FP.i2d iR)), .second, .val (.int sm), .val (.int wh), .val (.int mm), .val (.double (FP.l2d (A.toInt64))), .second, .val (.double (FP.l2d (A.toInt64 + B.toInt64))), .second, .val (.ref o39), .val (.ref o40), .val (.double (own_qw sm (FP.l2d (A.toInt64)) (FP.i2d iR))), .second, .unset, .unset, .unset, .unset, .unset] [(.int sm), (.ref o40)]))
          refine Ends.pre (fun tt kt => XS.dload X41.here hx rfl (hb hby at_244) rfl kt) ?_
          show Ends p e below _ (T41.setTop (mkF m 246 #[.val (.int qR), .val (.int iR), .val (.int kR), .val (.int kS), .val (.int md), .val (.double (FP.i2d iR)), .second, .val (.int sm), .val (.int wh), .val (.int mm), .val (.double (FP.l2d (A.toInt64))), .second, .val (.double (FP.l2d (A.toInt64 + B.toInt64))), .second, .val (.ref o39), .val (.ref o40), .val (.double (own_qw sm (FP.l2d (A.toInt64)) (FP.i2d iR))), .second, .unset, .unset, .unset, .unset, .unset] [(.double (FP.i2d iR)), (.int sm), (.ref o40)]))
          obtain ⟨cq42, kq42, q42a, q42b, q42c⟩ := isOf hZ e41 E_o40
          obtain ⟨_, _, ⟨T42, L42, k42, n42⟩, -, X42, ⟨Lc42, hQ42, l42, y42, z42⟩, st42⟩ := X41.virtualBack hx (y := (⟨"com/example/bare_ranker/bareranker/search/Bm25", "queryWeight", "(ID)D"⟩ : MethodName)) (z := (⟨"com/example/bare_ranker/bareranker/search/Bm25", "queryWeight", "(ID)D"⟩ : MethodName)) hown (mvT hZ (hw _ (List.mem_of_getElem? (i := 89) rfl))) (mvT hZ (hw _ (List.mem_of_getElem? (i := 90) rfl))) (notFace_of_selects (args := #[]) (mvT hZ (hw _ (List.mem_of_getElem? (i := 92) rfl)))) (mvT hZ (hw _ (List.mem_of_getElem? (i := 92) rfl))) (mvT hZ (hw _ (List.mem_of_getElem? (i := 91) rfl))) (by decide) (backOf (W := 0) (rm12 l Z a0 hw [] o40 sm (FP.i2d iR) (FP.l2d (A.toInt64 + B.toInt64)) T40.heap n0 Z0 F_k3_o40 okB) hZ (hw _ (List.mem_of_getElem? (i := 93) rfl)) (hw _ (List.mem_of_getElem? (i := 12) rfl)) (by decide) (by decide)) q42a q42c (g := (mkF m 246 #[.val (.int qR), .val (.int iR), .val (.int kR), .val (.int kS), .val (.int md), .val (.double (FP.i2d iR)), .second, .val (.int sm), .val (.int wh), .val (.int mm), .val (.double (FP.l2d (A.toInt64))), .second, .val (.double (FP.l2d (A.toInt64 + B.toInt64))), .second, .val (.ref o39), .val (.ref o40), .val (.double (own_qw sm (FP.l2d (A.toInt64)) (FP.i2d iR))), .second, .unset, .unset, .unset, .unset, .unset] [(.double (FP.i2d iR)), (.int sm), (.ref o40)])) rfl (by rw [hml]; rfl) (Steps.refl _) (argsL := [(.int sm), (.double (FP.i2d iR))]) (rest := []) (lenOf pd0_2 rfl) rfl (by show 2 * 0 + _ ≤ _; exact Nat.le_of_eq rfl) (hb hby at_246) (fun _ _ => ⟨rfl, e41, (show (2 : Nat) + (0 : Nat) ≤ _ from by decide), (show (14 : Nat) + (0 : Nat) ≤ _ from by decide)⟩)
          dsimp only [Pt.U, Pt.locs, Pt.cells, Pt.slots] at X42 l42 y42 z42 st42 hQ42
          subst l42 y42 z42
          obtain ⟨rfl, N42q, e42⟩ := hQ42
          have N42 := Fr.app N41 N42q
          refine Ends.pre (fun tt kt => st42.trans kt) ?_
          show Ends p e below _ (T42.setTop (mkF m 249 #[.val (.int qR), .val (.int iR), .val (.int kR), .val (.int kS), .val (.int md), .val (.double (FP.i2d iR)), .second, .val (.int sm), .val (.int wh), .val (.int mm), .val (.double (FP.l2d (A.toInt64))), .second, .val (.double (FP.l2d (A.toInt64 + B.toInt64))), .second, .val (.ref o39), .val (.ref o40), .val (.double (own_qw sm (FP.l2d (A.toInt64)) (FP.i2d iR))), .second, .unset, .unset, .unset, .unset, .unset] [(.double (own_qw sm (FP.l2d (A.toInt64 + B.toInt64)) (FP.i2d iR)))]))
          refine Ends.pre (fun tt kt => XS.dstore X42.here hx rfl (hb hby at_249) rfl (l' := #[.val (.int qR), .val (.int iR), .val (.int kR), .val (.int kS), .val (.int md), .val (.double (FP.i2d iR)), .second, .val (.int sm), .val (.int wh), .val (.int mm), .val (.double (FP.l2d (A.toInt64))), .second, .val (.double (FP.l2d (A.toInt64 + B.toInt64))), .second, .val (.ref o39), .val (.ref o40), .val (.double (own_qw sm (FP.l2d (A.toInt64)) (FP.i2d iR))), .second, .val (.double (own_qw sm (FP.l2d (A.toInt64 + B.toInt64)) (FP.i2d iR))), .second, .unset, .unset, .unset]) rfl kt) ?_
          show Ends p e below _ (T42.setTop (mkF m 251 #[.val (.int qR), .val (.int iR), .val (.int kR), .val (.int kS), .val (.int md), .val (.double (FP.i2d iR)), .second, .val (.int sm), .val (.int wh), .val (.int mm), .val (.double (FP.l2d (A.toInt64))), .second, .val (.double (FP.l2d (A.toInt64 + B.toInt64))), .second, .val (.ref o39), .val (.ref o40), .val (.double (own_qw sm (FP.l2d (A.toInt64)) (FP.i2d iR))), .second, .val (.double (own_qw sm (FP.l2d (A.toInt64 + B.toInt64)) (FP.i2d iR))), .second, .unset, .unset, .unset] []))
          refine Ends.pre (fun tt kt => XS.iload X42.here hx rfl (hb hby at_251) rfl kt) ?_
          show Ends p e below _ (T42.setTop (mkF m 253 #[.val (.int qR), .val (.int iR), .val (.int kR), .val (.int kS), .val (.int md), .val (.double (FP.i2d iR)), .second, .val (.int sm), .val (.int wh), .val (.int mm), .val (.double (FP.l2d (A.toInt64))), .second, .val (.double (FP.l2d (A.toInt64 + B.toInt64))), .second, .val (.ref o39), .val (.ref o40), .val (.double (own_qw sm (FP.l2d (A.toInt64)) (FP.i2d iR))), .second, .val (.double (own_qw sm (FP.l2d (A.toInt64 + B.toInt64)) (FP.i2d iR))), .second, .unset, .unset, .unset] [(.int sm)]))
          refine Ends.pre (fun tt kt => XS.i2dS X42.here hx rfl (v := (FP.i2d sm)) (hb hby at_253) rfl rfl kt) ?_
          show Ends p e below _ (T42.setTop (mkF m 254 #[.val (.int qR), .val (.int iR), .val (.int kR), .val (.int kS), .val (.int md), .val (.double (FP.i2d iR)), .second, .val (.int sm), .val (.int wh), .val (.int mm), .val (.double (FP.l2d (A.toInt64))), .second, .val (.double (FP.l2d (A.toInt64 + B.toInt64))), .second, .val (.ref o39), .val (.ref o40), .val (.double (own_qw sm (FP.l2d (A.toInt64)) (FP.i2d iR))), .second, .val (.double (own_qw sm (FP.l2d (A.toInt64 + B.toInt64)) (FP.i2d iR))), .second, .unset, .unset, .unset] [(.double (FP.i2d sm))]))
          refine Ends.pre (fun tt kt => XS.dload X42.here hx rfl (hb hby at_254) rfl kt) ?_
          show Ends p e below _ (T42.setTop (mkF m 256 #[.val (.int qR), .val (.int iR), .val (.int kR), .val (.int kS), .val (.int md), .val (.double (FP.i2d iR)), .second, .val (.int sm), .val (.int wh), .val (.int mm), .val (.double (FP.l2d (A.toInt64))), .second, .val (.double (FP.l2d (A.toInt64 + B.toInt64))), .second, .val (.ref o39), .val (.ref o40), .val (.double (own_qw sm (FP.l2d (A.toInt64)) (FP.i2d iR))), .second, .val (.double (own_qw sm (FP.l2d (A.toInt64 + B.toInt64)) (FP.i2d iR))), .second, .unset, .unset, .unset] [(.double (FP.i2d iR)), (.double (FP.i2d sm))]))
          refine Ends.pre (fun tt kt => XS.dmulS X42.here hx rfl (v := (FP.dmul (FP.i2d sm) (FP.i2d iR))) (hb hby at_256) rfl hnn rfl kt) ?_
          show Ends p e below _ (T42.setTop (mkF m 257 #[.val (.int qR), .val (.int iR), .val (.int kR), .val (.int kS), .val (.int md), .val (.double (FP.i2d iR)), .second, .val (.int sm), .val (.int wh), .val (.int mm), .val (.double (FP.l2d (A.toInt64))), .second, .val (.double (FP.l2d (A.toInt64 + B.toInt64))), .second, .val (.ref o39), .val (.ref o40), .val (.double (own_qw sm (FP.l2d (A.toInt64)) (FP.i2d iR))), .second, .val (.double (own_qw sm (FP.l2d (A.toInt64 + B.toInt64)) (FP.i2d iR))), .second, .unset, .unset, .unset] [(.double (FP.dmul (FP.i2d sm) (FP.i2d iR)))]))
          refine Ends.pre (fun tt kt => XS.dstore X42.here hx rfl (hb hby at_257) rfl (l' := #[.val (.int qR), .val (.int iR), .val (.int kR), .val (.int kS), .val (.int md), .val (.double (FP.i2d iR)), .second, .val (.int sm), .val (.int wh), .val (.int mm), .val (.double (FP.l2d (A.toInt64))), .second, .val (.double (FP.l2d (A.toInt64 + B.toInt64))), .second, .val (.ref o39), .val (.ref o40), .val (.double (own_qw sm (FP.l2d (A.toInt64)) (FP.i2d iR))), .second, .val (.double (own_qw sm (FP.l2d (A.toInt64 + B.toInt64)) (FP.i2d iR))), .second, .val (.double (FP.dmul (FP.i2d sm) (FP.i2d iR))), .second, .unset]) rfl kt) ?_
          show Ends p e below _ (T42.setTop (mkF m 259 #[.val (.int qR), .val (.int iR), .val (.int kR), .val (.int kS), .val (.int md), .val (.double (FP.i2d iR)), .second, .val (.int sm), .val (.int wh), .val (.int mm), .val (.double (FP.l2d (A.toInt64))), .second, .val (.double (FP.l2d (A.toInt64 + B.toInt64))), .second, .val (.ref o39), .val (.ref o40), .val (.double (own_qw sm (FP.l2d (A.toInt64)) (FP.i2d iR))), .second, .val (.double (own_qw sm (FP.l2d (A.toInt64 + B.toInt64)) (FP.i2d iR))), .second, .val (.double (FP.dmul (FP.i2d sm) (FP.i2d iR))), .second, .unset] []))
          refine Ends.pre (fun tt kt => XS.iload X42.here hx rfl (hb hby at_259) rfl kt) ?_
          show Ends p e below _ (T42.setTop (mkF m 261 #[.val (.int qR), .val (.int iR), .val (.int kR), .val (.int kS), .val (.int md), .val (.double (FP.i2d iR)), .second, .val (.int sm), .val (.int wh), .val (.int mm), .val (.double (FP.l2d (A.toInt64))), .second, .val (.double (FP.l2d (A.toInt64 + B.toInt64))), .second, .val (.ref o39), .val (.ref o40), .val (.double (own_qw sm (FP.l2d (A.toInt64)) (FP.i2d iR))), .second, .val (.double (own_qw sm (FP.l2d (A.toInt64 + B.toInt64)) (FP.i2d iR))), .second, .val (.double (FP.dmul (FP.i2d sm) (FP.i2d iR))), .second, .unset] [(.int sm)]))
          refine Ends.pre (fun tt kt => XS.iconst X42.here hx rfl (hb hby at_261) kt) ?_
          show Ends p e below _ (T42.setTop (mkF m 262 #[.val (.int qR), .val (.int iR), .val (.int kR), .val (.int kS), .val (.int md), .val (.double (FP.i2d iR)), .second, .val (.int sm), .val (.int wh), .val (.int mm), .val (.double (FP.l2d (A.toInt64))), .second, .val (.double (FP.l2d (A.toInt64 + B.toInt64))), .second, .val (.ref o39), .val (.ref o40), .val (.double (own_qw sm (FP.l2d (A.toInt64)) (FP.i2d iR))), .second, .val (.double (own_qw sm (FP.l2d (A.toInt64 + B.toInt64)) (FP.i2d iR))), .second, .val (.double (FP.dmul (FP.i2d sm) (FP.i2d iR))), .second, .unset] [(.int (1 : Int32)), (.int sm)]))
          by_cases hs1 : sm = (1 : Int32)
          ·
            refine Ends.pre (fun tt kt => XS.icmpNo X42.here hx rfl (hb hby at_262) rfl (teq hs1).2 kt) ?_
            show Ends p e below _ (T42.setTop (mkF m 265 #[.val (.int qR), .val (.int iR), .val (.int kR), .val (.int kS), .val (.int md), .val (.double (FP.i2d iR)), .second, .val (.int sm), .val (.int wh), .val (.int mm), .val (.double (FP.l2d (A.toInt64))), .second, .val (.double (FP.l2d (A.toInt64 + B.toInt64))), .second, .val (.ref o39), .val (.ref o40), .val (.double (own_qw sm (FP.l2d (A.toInt64)) (FP.i2d iR))), .second, .val (.double (own_qw sm (FP.l2d (A.toInt64 + B.toInt64)) (FP.i2d iR))), .second, .val (.double (FP.dmul (FP.i2d sm) (FP.i2d iR))), .second, .unset] []))
            by_cases hI : iR.toInt < 0
            ·
              obtain ⟨l1, l2, l3, l4, l5, l6, l7⟩ := hneg hI
              have hn1' := own_n1 hn hs1
              refine Ends.pre (fun tt kt => XS.dload X42.here hx rfl (hb hby at_265) rfl kt) ?_
              show Ends p e below _ (T42.setTop (mkF m 267 #[.val (.int qR), .val (.int iR), .val (.int kR), .val (.int kS), .val (.int md), .val (.double (FP.i2d iR)), .second, .val (.int sm), .val (.int wh), .val (.int mm), .val (.double (FP.l2d (A.toInt64))), .second, .val (.double (FP.l2d (A.toInt64 + B.toInt64))), .second, .val (.ref o39), .val (.ref o40), .val (.double (own_qw sm (FP.l2d (A.toInt64)) (FP.i2d iR))), .second, .val (.double (own_qw sm (FP.l2d (A.toInt64 + B.toInt64)) (FP.i2d iR))), .second, .val (.double (FP.dmul (FP.i2d sm) (FP.i2d iR))), .second, .unset] [(.double (own_qw sm (FP.l2d (A.toInt64)) (FP.i2d iR)))]))
              refine Ends.pre (fun tt kt => XS.dload X42.here hx rfl (hb hby at_267) rfl kt) ?_
              show Ends p e below _ (T42.setTop (mkF m 269 #[.val (.int qR), .val (.int iR), .val (.int kR), .val (.int kS), .val (.int md), .val (.double (FP.i2d iR)), .second, .val (.int sm), .val (.int wh), .val (.int mm), .val (.double (FP.l2d (A.toInt64))), .second, .val (.double (FP.l2d (A.toInt64 + B.toInt64))), .second, .val (.ref o39), .val (.ref o40), .val (.double (own_qw sm (FP.l2d (A.toInt64)) (FP.i2d iR))), .second, .val (.double (own_qw sm (FP.l2d (A.toInt64 + B.toInt64)) (FP.i2d iR))), .second, .val (.double (FP.dmul (FP.i2d sm) (FP.i2d iR))), .second, .unset] [(.double (FP.i2d iR)), (.double (own_qw sm (FP.l2d (A.toInt64)) (FP.i2d iR)))]))
              refine Ends.pre (fun tt kt => XS.dcmpS X42.here hx rfl (v := (0 : Int32)) (hb hby at_269) rfl (l2.eq (own_le_trans (l6 hn1') l1)) kt) ?_
              show Ends p e below _ (T42.setTop (mkF m 270 #[.val (.int qR), .val (.int iR), .val (.int kR), .val (.int kS), .val (.int md), .val (.double (FP.i2d iR)), .second, .val (.int sm), .val (.int wh), .val (.int mm), .val (.double (FP.l2d (A.toInt64))), .second, .val (.double (FP.l2d (A.toInt64 + B.toInt64))), .second, .val (.ref o39), .val (.ref o40), .val (.double (own_qw sm (FP.l2d (A.toInt64)) (FP.i2d iR))), .second, .val (.double (own_qw sm (FP.l2d (A.toInt64 + B.toInt64)) (FP.i2d iR))), .second, .val (.double (FP.dmul (FP.i2d sm) (FP.i2d iR))), .second, .unset] [(.int (0 : Int32))]))
              refine Ends.pre (fun tt kt => XS.ifNo X42.here hx rfl (hb hby at_270) rfl ((if0 _ _).trans (teq rfl).2) kt) ?_
              show Ends p e below _ (T42.setTop (mkF m 273 #[.val (.int qR), .val (.int iR), .val (.int kR), .val (.int kS), .val (.int md), .val (.double (FP.i2d iR)), .second, .val (.int sm), .val (.int wh), .val (.int mm), .val (.double (FP.l2d (A.toInt64))), .second, .val (.double (FP.l2d (A.toInt64 + B.toInt64))), .second, .val (.ref o39), .val (.ref o40), .val (.double (own_qw sm (FP.l2d (A.toInt64)) (FP.i2d iR))), .second, .val (.double (own_qw sm (FP.l2d (A.toInt64 + B.toInt64)) (FP.i2d iR))), .second, .val (.double (FP.dmul (FP.i2d sm) (FP.i2d iR))), .second, .unset] []))
              refine Ends.pre (fun tt kt => XS.dload X42.here hx rfl (hb hby at_273) rfl kt) ?_
              show Ends p e below _ (T42.setTop (mkF m 275 #[.val (.int qR), .val (.int iR), .val (.int kR), .val (.int kS), .val (.int md), .val (.double (FP.i2d iR)), .second, .val (.int sm), .val (.int wh), .val (.int mm), .val (.double (FP.l2d (A.toInt64))), .second, .val (.double (FP.l2d (A.toInt64 + B.toInt64))), .second, .val (.ref o39), .val (.ref o40), .val (.double (own_qw sm (FP.l2d (A.toInt64)) (FP.i2d iR))), .second, .val (.double (own_qw sm (FP.l2d (A.toInt64 + B.toInt64)) (FP.i2d iR))), .second, .val (.double (FP.dmul (FP.i2d sm) (FP.i2d iR))), .second, .unset] [(.double (own_qw sm (FP.l2d (A.toInt64 + B.toInt64)) (FP.i2d iR)))]))
              refine Ends.pre (fun tt kt => XS.dload X42.here hx rfl (hb hby at_275) rfl kt) ?_
              show Ends p e below _ (T42.setTop (mkF m 277 #[.val (.int qR), .val (.int iR), .val (.int kR), .val (.int kS), .val (.int md), .val (.double (FP.i2d iR)), .second, .val (.int sm), .val (.int wh), .val (.int mm), .val (.double (FP.l2d (A.toInt64))), .second, .val (.double (FP.l2d (A.toInt64 + B.toInt64))), .second, .val (.ref o39), .val (.ref o40), .val (.double (own_qw sm (FP.l2d (A.toInt64)) (FP.i2d iR))), .second, .val (.double (own_qw sm (FP.l2d (A.toInt64 + B.toInt64)) (FP.i2d iR))), .second, .val (.double (FP.dmul (FP.i2d sm) (FP.i2d iR))), .second, .unset] [(.double (FP.i2d iR)), (.double (own_qw sm (FP.l2d (A.toInt64 + B.toInt64)) (FP.i2d iR)))]))
              refine Ends.pre (fun tt kt => XS.dcmpS X42.here hx rfl (v := (0 : Int32)) (hb hby at_277) rfl (l4.eq (own_le_trans (l6 hn1') l3)) kt) ?_
              show Ends p e below _ (T42.setTop (mkF m 278 #[.val (.int qR), .val (.int iR), .val (.int kR), .val (.int kS), .val (.int md), .val (.double (FP.i2d iR)), .second, .val (.int sm), .val (.int wh), .val (.int mm), .val (.double (FP.l2d (A.toInt64))), .second, .val (.double (FP.l2d (A.toInt64 + B.toInt64))), .second, .val (.ref o39), .val (.ref o40), .val (.double (own_qw sm (FP.l2d (A.toInt64)) (FP.i2d iR))), .second, .val (.double (own_qw sm (FP.l2d (A.toInt64 + B.toInt64)) (FP.i2d iR))), .second, .val (.double (FP.dmul (FP.i2d sm) (FP.i2d iR))), .second, .unset] [(.int (0 : Int32))]))
              refine Ends.pre (fun tt kt => XS.ifNo X42.here hx rfl (hb hby at_278) rfl ((if0 _ _).trans (teq rfl).2) kt) ?_
              show Ends p e below _ (T42.setTop (mkF m 281 #[.val (.int qR), .val (.int iR), .val (.int kR), .val (.int kS), .val (.int md), .val (.double (FP.i2d iR)), .second, .val (.int sm), .val (.int wh), .val (.int mm), .val (.double (FP.l2d (A.toInt64))), .second, .val (.double (FP.l2d (A.toInt64 + B.toInt64))), .second, .val (.ref o39), .val (.ref o40), .val (.double (own_qw sm (FP.l2d (A.toInt64)) (FP.i2d iR))), .second, .val (.double (own_qw sm (FP.l2d (A.toInt64 + B.toInt64)) (FP.i2d iR))), .second, .val (.double (FP.dmul (FP.i2d sm) (FP.i2d iR))), .second, .unset] []))
              refine Ends.pre (fun tt kt => XS.iconst X42.here hx rfl (hb hby at_281) kt) ?_
              show Ends p e below _ (T42.setTop (mkF m 282 #[.val (.int qR), .val (.int iR), .val (.int kR), .val (.int kS), .val (.int md), .val (.double (FP.i2d iR)), .second, .val (.int sm), .val (.int wh), .val (.int mm), .val (.double (FP.l2d (A.toInt64))), .second, .val (.double (FP.l2d (A.toInt64 + B.toInt64))), .second, .val (.ref o39), .val (.ref o40), .val (.double (own_qw sm (FP.l2d (A.toInt64)) (FP.i2d iR))), .second, .val (.double (own_qw sm (FP.l2d (A.toInt64 + B.toInt64)) (FP.i2d iR))), .second, .val (.double (FP.dmul (FP.i2d sm) (FP.i2d iR))), .second, .unset] [(.int (1 : Int32))]))
              refine Ends.pre (fun tt kt => XS.goto X42.here hx rfl (pc0 := 282) (pc' := 286) rfl (hb hby at_282) (by decide) (by decide) kt) ?_
              show Ends p e below _ (T42.setTop (mkF m 286 #[.val (.int qR), .val (.int iR), .val (.int kR), .val (.int kS), .val (.int md), .val (.double (FP.i2d iR)), .second, .val (.int sm), .val (.int wh), .val (.int mm), .val (.double (FP.l2d (A.toInt64))), .second, .val (.double (FP.l2d (A.toInt64 + B.toInt64))), .second, .val (.ref o39), .val (.ref o40), .val (.double (own_qw sm (FP.l2d (A.toInt64)) (FP.i2d iR))), .second, .val (.double (own_qw sm (FP.l2d (A.toInt64 + B.toInt64)) (FP.i2d iR))), .second, .val (.double (FP.dmul (FP.i2d sm) (FP.i2d iR))), .second, .unset] [(.int (1 : Int32))]))
              refine Ends.pre (fun tt kt => XS.istore X42.here hx rfl (hb hby at_286) rfl (l' := #[.val (.int qR), .val (.int iR), .val (.int kR), .val (.int kS), .val (.int md), .val (.double (FP.i2d iR)), .second, .val (.int sm), .val (.int wh), .val (.int mm), .val (.double (FP.l2d (A.toInt64))), .second, .val (.double (FP.l2d (A.toInt64 + B.toInt64))), .second, .val (.ref o39), .val (.ref o40), .val (.double (own_qw sm (FP.l2d (A.toInt64)) (FP.i2d iR))), .second, .val (.double (own_qw sm (FP.l2d (A.toInt64 + B.toInt64)) (FP.i2d iR))), .second, .val (.double (FP.dmul (FP.i2d sm) (FP.i2d iR))), .second, .val (.int (1 : Int32))]) rfl kt) ?_
              show Ends p e below _ (T42.setTop (mkF m 288 #[.val (.int qR), .val (.int iR), .val (.int kR), .val (.int kS), .val (.int md), .val (.double (FP.i2d iR)), .second, .val (.int sm), .val (.int wh), .val (.int mm), .val (.double (FP.l2d (A.toInt64))), .second, .val (.double (FP.l2d (A.toInt64 + B.toInt64))), .second, .val (.ref o39), .val (.ref o40), .val (.double (own_qw sm (FP.l2d (A.toInt64)) (FP.i2d iR))), .second, .val (.double (own_qw sm (FP.l2d (A.toInt64 + B.toInt64)) (FP.i2d iR))), .second, .val (.double (FP.dmul (FP.i2d sm) (FP.i2d iR))), .second, .val (.int (1 : Int32))] []))
              refine Ends.pre (fun tt kt => XS.dload X42.here hx rfl (hb hby at_288) rfl kt) ?_
              show Ends p e below _ (T42.setTop (mkF m 290 #[.val (.int qR), .val (.int iR), .val (.int kR), .val (.int kS), .val (.int md), .val (.double (FP.i2d iR)), .second, .val (.int sm), .val (.int wh), .val (.int mm), .val (.double (FP.l2d (A.toInt64))), .second, .val (.double (FP.l2d (A.toInt64 + B.toInt64))), .second, .val (.ref o39), .val (.ref o40), .val (.double (own_qw sm (FP.l2d (A.toInt64)) (FP.i2d iR))), .second, .val (.double (own_qw sm (FP.l2d (A.toInt64 + B.toInt64)) (FP.i2d iR))), .second, .val (.double (FP.dmul (FP.i2d sm) (FP.i2d iR))), .second, .val (.int (1 : Int32))] [(.double (FP.i2d iR))]))
              refine Ends.pre (fun tt kt => XS.dconst0 X42.here hx rfl (hb hby at_290) rfl kt) ?_
              show Ends p e below _ (T42.setTop (mkF m 291 #[.val (.int qR), .val (.int iR), .val (.int kR), .val (.int kS), .val (.int md), .val (.double (FP.i2d iR)), .second, .val (.int sm), .val (.int wh), .val (.int mm), .val (.double (FP.l2d (A.toInt64))), .second, .val (.double (FP.l2d (A.toInt64 + B.toInt64))), .second, .val (.ref o39), .val (.ref o40), .val (.double (own_qw sm (FP.l2d (A.toInt64)) (FP.i2d iR))), .second, .val (.double (own_qw sm (FP.l2d (A.toInt64 + B.toInt64)) (FP.i2d iR))), .second, .val (.double (FP.dmul (FP.i2d sm) (FP.i2d iR))), .second, .val (.int (1 : Int32))] [(.double FP.dconst0), (.double (FP.i2d iR))]))
              refine Ends.pre (fun tt kt => XS.dcmpS X42.here hx rfl (v := (cmpValue (FP.dcmp (FP.i2d iR) FP.dconst0) .l)) (hb hby at_291) rfl rfl kt) ?_
              show Ends p e below _ (T42.setTop (mkF m 292 #[.val (.int qR), .val (.int iR), .val (.int kR), .val (.int kS), .val (.int md), .val (.double (FP.i2d iR)), .second, .val (.int sm), .val (.int wh), .val (.int mm), .val (.double (FP.l2d (A.toInt64))), .second, .val (.double (FP.l2d (A.toInt64 + B.toInt64))), .second, .val (.ref o39), .val (.ref o40), .val (.double (own_qw sm (FP.l2d (A.toInt64)) (FP.i2d iR))), .second, .val (.double (own_qw sm (FP.l2d (A.toInt64 + B.toInt64)) (FP.i2d iR))), .second, .val (.double (FP.dmul (FP.i2d sm) (FP.i2d iR))), .second, .val (.int (1 : Int32))] [(.int (cmpValue (FP.dcmp (FP.i2d iR) FP.dconst0) .l))]))
              refine Ends.pre (fun tt kt => XS.ifYes X42.here hx rfl (pc0 := 292) (pc' := 346) rfl (hb hby at_292) rfl ((if0 _ _).trans (tlt l7).1) (by decide) (by decide) kt) ?_
              show Ends p e below _ (T42.setTop (mkF m 346 #[.val (.int qR), .val (.int iR), .val (.int kR), .val (.int kS), .val (.int md), .val (.double (FP.i2d iR)), .second, .val (.int sm), .val (.int wh), .val (.int mm), .val (.double (FP.l2d (A.toInt64))), .second, .val (.double (FP.l2d (A.toInt64 + B.toInt64))), .second, .val (.ref o39), .val (.ref o40), .val (.double (own_qw sm (FP.l2d (A.toInt64)) (FP.i2d iR))), .second, .val (.double (own_qw sm (FP.l2d (A.toInt64 + B.toInt64)) (FP.i2d iR))), .second, .val (.double (FP.dmul (FP.i2d sm) (FP.i2d iR))), .second, .val (.int (1 : Int32))] []))
              refine Ends.pre (fun tt kt => XS.dload X42.here hx rfl (hb hby at_346) rfl kt) ?_
              show Ends p e below _ (T42.setTop (mkF m 348 #[.val (.int qR), .val (.int iR), .val (.int kR), .val (.int kS), .val (.int md), .val (.double (FP.i2d iR)), .second, .val (.int sm), .val (.int wh), .val (.int mm), .val (.double (FP.l2d (A.toInt64))), .second, .val (.double (FP.l2d (A.toInt64 + B.toInt64))), .second, .val (.ref o39), .val (.ref o40), .val (.double (own_qw sm (FP.l2d (A.toInt64)) (FP.i2d iR))), .second, .val (.double (own_qw sm (FP.l2d (A.toInt64 + B.toInt64)) (FP.i2d iR))), .second, .val (.double (FP.dmul (FP.i2d sm) (FP.i2d iR))), .second, .val (.int (1 : Int32))] [(.double (FP.dmul (FP.i2d sm) (FP.i2d iR)))]))
              refine Ends.pre (fun tt kt => XS.dload X42.here hx rfl (hb hby at_348) rfl kt) ?_
              show Ends p e below _ (T42.setTop (mkF m 350 #[.val (.int qR), .val (.int iR), .val (.int kR), .val (.int kS), .val (.int md), .val (.double (FP.i2d iR)), .second, .val (.int sm), .val (.int wh), .val (.int mm), .val (.double (FP.l2d (A.toInt64))), .second, .val (.double (FP.l2d (A.toInt64 + B.toInt64))), .second, .val (.ref o39), .val (.ref o40), .val (.double (own_qw sm (FP.l2d (A.toInt64)) (FP.i2d iR))), .second, .val (.double (own_qw sm (FP.l2d (A.toInt64 + B.toInt64)) (FP.i2d iR))), .second, .val (.double (FP.dmul (FP.i2d sm) (FP.i2d iR))), .second, .val (.int (1 : Int32))] [(.double (own_qw sm (FP.l2d (A.toInt64)) (FP.i2d iR))), (.double (FP.dmul (FP.i2d sm) (FP.i2d iR)))]))
              refine Ends.pre (fun tt kt => XS.dcmpS X42.here hx rfl (v := (cmpValue (FP.dcmp (FP.dmul (FP.i2d sm) (FP.i2d iR)) (own_qw sm (FP.l2d (A.toInt64)) (FP.i2d iR))) .g)) (hb hby at_350) rfl rfl kt) ?_
              show Ends p e below _ (T42.setTop (mkF m 351 #[.val (.int qR), .val (.int iR), .val (.int kR), .val (.int kS), .val (.int md), .val (.double (FP.i2d iR)), .second, .val (.int sm), .val (.int wh), .val (.int mm), .val (.double (FP.l2d (A.toInt64))), .second, .val (.double (FP.l2d (A.toInt64 + B.toInt64))), .second, .val (.ref o39), .val (.ref o40), .val (.double (own_qw sm (FP.l2d (A.toInt64)) (FP.i2d iR))), .second, .val (.double (own_qw sm (FP.l2d (A.toInt64 + B.toInt64)) (FP.i2d iR))), .second, .val (.double (FP.dmul (FP.i2d sm) (FP.i2d iR))), .second, .val (.int (1 : Int32))] [(.int (cmpValue (FP.dcmp (FP.dmul (FP.i2d sm) (FP.i2d iR)) (own_qw sm (FP.l2d (A.toInt64)) (FP.i2d iR))) .g))]))
              refine Ends.pre (fun tt kt => XS.ifNo X42.here hx rfl (hb hby at_351) rfl ((if0 _ _).trans (flt l1.g).2.2.1) kt) ?_
              show Ends p e below _ (T42.setTop (mkF m 354 #[.val (.int qR), .val (.int iR), .val (.int kR), .val (.int kS), .val (.int md), .val (.double (FP.i2d iR)), .second, .val (.int sm), .val (.int wh), .val (.int mm), .val (.double (FP.l2d (A.toInt64))), .second, .val (.double (FP.l2d (A.toInt64 + B.toInt64))), .second, .val (.ref o39), .val (.ref o40), .val (.double (own_qw sm (FP.l2d (A.toInt64)) (FP.i2d iR))), .second, .val (.double (own_qw sm (FP.l2d (A.toInt64 + B.toInt64)) (FP.i2d iR))), .second, .val (.double (FP.dmul (FP.i2d sm) (FP.i2d iR))), .second, .val (.int (1 : Int32))] []))
              refine Ends.pre (fun tt kt => XS.dload X42.here hx rfl (hb hby at_354) rfl kt) ?_
              show Ends p e below _ (T42.setTop (mkF m 356 #[.val (.int qR), .val (.int iR), .val (.int kR), .val (.int kS), .val (.int md), .val (.double (FP.i2d iR)), .second, .val (.int sm), .val (.int wh), .val (.int mm), .val (.double (FP.l2d (A.toInt64))), .second, .val (.double (FP.l2d (A.toInt64 + B.toInt64))), .second, .val (.ref o39), .val (.ref o40), .val (.double (own_qw sm (FP.l2d (A.toInt64)) (FP.i2d iR))), .second, .val (.double (own_qw sm (FP.l2d (A.toInt64 + B.toInt64)) (FP.i2d iR))), .second, .val (.double (FP.dmul (FP.i2d sm) (FP.i2d iR))), .second, .val (.int (1 : Int32))] [(.double (own_qw sm (FP.l2d (A.toInt64)) (FP.i2d iR)))]))
              refine Ends.pre (fun tt kt => XS.dload X42.here hx rfl (hb hby at_356) rfl kt) ?_
              show Ends p e below _ (T42.setTop (mkF m 358 #[.val (.int qR), .val (.int iR), .val (.int kR), .val (.int kS), .val (.int md), .val (.double (FP.i2d iR)), .second, .val (.int sm), .val (.int wh), .val (.int mm), .val (.double (FP.l2d (A.toInt64))), .second, .val (.double (FP.l2d (A.toInt64 + B.toInt64))), .second, .val (.ref o39), .val (.ref o40), .val (.double (own_qw sm (FP.l2d (A.toInt64)) (FP.i2d iR))), .second, .val (.double (own_qw sm (FP.l2d (A.toInt64 + B.toInt64)) (FP.i2d iR))), .second, .val (.double (FP.dmul (FP.i2d sm) (FP.i2d iR))), .second, .val (.int (1 : Int32))] [(.double (FP.i2d iR)), (.double (own_qw sm (FP.l2d (A.toInt64)) (FP.i2d iR)))]))
              refine Ends.pre (fun tt kt => XS.dcmpS X42.here hx rfl (v := (cmpValue (FP.dcmp (own_qw sm (FP.l2d (A.toInt64)) (FP.i2d iR)) (FP.i2d iR)) .g)) (hb hby at_358) rfl rfl kt) ?_
              show Ends p e below _ (T42.setTop (mkF m 359 #[.val (.int qR), .val (.int iR), .val (.int kR), .val (.int kS), .val (.int md), .val (.double (FP.i2d iR)), .second, .val (.int sm), .val (.int wh), .val (.int mm), .val (.double (FP.l2d (A.toInt64))), .second, .val (.double (FP.l2d (A.toInt64 + B.toInt64))), .second, .val (.ref o39), .val (.ref o40), .val (.double (own_qw sm (FP.l2d (A.toInt64)) (FP.i2d iR))), .second, .val (.double (own_qw sm (FP.l2d (A.toInt64 + B.toInt64)) (FP.i2d iR))), .second, .val (.double (FP.dmul (FP.i2d sm) (FP.i2d iR))), .second, .val (.int (1 : Int32))] [(.int (cmpValue (FP.dcmp (own_qw sm (FP.l2d (A.toInt64)) (FP.i2d iR)) (FP.i2d iR)) .g))]))
              refine Ends.pre (fun tt kt => XS.ifNo X42.here hx rfl (hb hby at_359) rfl ((if0 _ _).trans (flt l2.g).2.2.1) kt) ?_
              show Ends p e below _ (T42.setTop (mkF m 362 #[.val (.int qR), .val (.int iR), .val (.int kR), .val (.int kS), .val (.int md), .val (.double (FP.i2d iR)), .second, .val (.int sm), .val (.int wh), .val (.int mm), .val (.double (FP.l2d (A.toInt64))), .second, .val (.double (FP.l2d (A.toInt64 + B.toInt64))), .second, .val (.ref o39), .val (.ref o40), .val (.double (own_qw sm (FP.l2d (A.toInt64)) (FP.i2d iR))), .second, .val (.double (own_qw sm (FP.l2d (A.toInt64 + B.toInt64)) (FP.i2d iR))), .second, .val (.double (FP.dmul (FP.i2d sm) (FP.i2d iR))), .second, .val (.int (1 : Int32))] []))
              refine Ends.pre (fun tt kt => XS.dload X42.here hx rfl (hb hby at_362) rfl kt) ?_
              show Ends p e below _ (T42.setTop (mkF m 364 #[.val (.int qR), .val (.int iR), .val (.int kR), .val (.int kS), .val (.int md), .val (.double (FP.i2d iR)), .second, .val (.int sm), .val (.int wh), .val (.int mm), .val (.double (FP.l2d (A.toInt64))), .second, .val (.double (FP.l2d (A.toInt64 + B.toInt64))), .second, .val (.ref o39), .val (.ref o40), .val (.double (own_qw sm (FP.l2d (A.toInt64)) (FP.i2d iR))), .second, .val (.double (own_qw sm (FP.l2d (A.toInt64 + B.toInt64)) (FP.i2d iR))), .second, .val (.double (FP.dmul (FP.i2d sm) (FP.i2d iR))), .second, .val (.int (1 : Int32))] [(.double (FP.dmul (FP.i2d sm) (FP.i2d iR)))]))
              refine Ends.pre (fun tt kt => XS.dload X42.here hx rfl (hb hby at_364) rfl kt) ?_
              show Ends p e below _ (T42.setTop (mkF m 366 #[.val (.int qR), .val (.int iR), .val (.int kR), .val (.int kS), .val (.int md), .val (.double (FP.i2d iR)), .second, .val (.int sm), .val (.int wh), .val (.int mm), .val (.double (FP.l2d (A.toInt64))), .second, .val (.double (FP.l2d (A.toInt64 + B.toInt64))), .second, .val (.ref o39), .val (.ref o40), .val (.double (own_qw sm (FP.l2d (A.toInt64)) (FP.i2d iR))), .second, .val (.double (own_qw sm (FP.l2d (A.toInt64 + B.toInt64)) (FP.i2d iR))), .second, .val (.double (FP.dmul (FP.i2d sm) (FP.i2d iR))), .second, .val (.int (1 : Int32))] [(.double (own_qw sm (FP.l2d (A.toInt64 + B.toInt64)) (FP.i2d iR))), (.double (FP.dmul (FP.i2d sm) (FP.i2d iR)))]))
              refine Ends.pre (fun tt kt => XS.dcmpS X42.here hx rfl (v := (cmpValue (FP.dcmp (FP.dmul (FP.i2d sm) (FP.i2d iR)) (own_qw sm (FP.l2d (A.toInt64 + B.toInt64)) (FP.i2d iR))) .g)) (hb hby at_366) rfl rfl kt) ?_
              show Ends p e below _ (T42.setTop (mkF m 367 #[.val (.int qR), .val (.int iR), .val (.int kR), .val (.int kS), .val (.int md), .val (.double (FP.i2d iR)), .second, .val (.int sm), .val (.int wh), .val (.int mm), .val (.double (FP.l2d (A.toInt64))), .second, .val (.double (FP.l2d (A.toInt64 + B.toInt64))), .second, .val (.ref o39), .val (.ref o40), .val (.double (own_qw sm (FP.l2d (A.toInt64)) (FP.i2d iR))), .second, .val (.double (own_qw sm (FP.l2d (A.toInt64 + B.toInt64)) (FP.i2d iR))), .second, .val (.double (FP.dmul (FP.i2d sm) (FP.i2d iR))), .second, .val (.int (1 : Int32))] [(.int (cmpValue (FP.dcmp (FP.dmul (FP.i2d sm) (FP.i2d iR)) (own_qw sm (FP.l2d (A.toInt64 + B.toInt64)) (FP.i2d iR))) .g))]))
              refine Ends.pre (fun tt kt => XS.ifNo X42.here hx rfl (hb hby at_367) rfl ((if0 _ _).trans (flt l3.g).2.2.1) kt) ?_
              show Ends p e below _ (T42.setTop (mkF m 370 #[.val (.int qR), .val (.int iR), .val (.int kR), .val (.int kS), .val (.int md), .val (.double (FP.i2d iR)), .second, .val (.int sm), .val (.int wh), .val (.int mm), .val (.double (FP.l2d (A.toInt64))), .second, .val (.double (FP.l2d (A.toInt64 + B.toInt64))), .second, .val (.ref o39), .val (.ref o40), .val (.double (own_qw sm (FP.l2d (A.toInt64)) (FP.i2d iR))), .second, .val (.double (own_qw sm (FP.l2d (A.toInt64 + B.toInt64)) (FP.i2d iR))), .second, .val (.double (FP.dmul (FP.i2d sm) (FP.i2d iR))), .second, .val (.int (1 : Int32))] []))
              refine Ends.pre (fun tt kt => XS.dload X42.here hx rfl (hb hby at_370) rfl kt) ?_
              show Ends p e below _ (T42.setTop (mkF m 372 #[.val (.int qR), .val (.int iR), .val (.int kR), .val (.int kS), .val (.int md), .val (.double (FP.i2d iR)), .second, .val (.int sm), .val (.int wh), .val (.int mm), .val (.double (FP.l2d (A.toInt64))), .second, .val (.double (FP.l2d (A.toInt64 + B.toInt64))), .second, .val (.ref o39), .val (.ref o40), .val (.double (own_qw sm (FP.l2d (A.toInt64)) (FP.i2d iR))), .second, .val (.double (own_qw sm (FP.l2d (A.toInt64 + B.toInt64)) (FP.i2d iR))), .second, .val (.double (FP.dmul (FP.i2d sm) (FP.i2d iR))), .second, .val (.int (1 : Int32))] [(.double (own_qw sm (FP.l2d (A.toInt64 + B.toInt64)) (FP.i2d iR)))]))
              refine Ends.pre (fun tt kt => XS.dload X42.here hx rfl (hb hby at_372) rfl kt) ?_
              show Ends p e below _ (T42.setTop (mkF m 374 #[.val (.int qR), .val (.int iR), .val (.int kR), .val (.int kS), .val (.int md), .val (.double (FP.i2d iR)), .second, .val (.int sm), .val (.int wh), .val (.int mm), .val (.double (FP.l2d (A.toInt64))), .second, .val (.double (FP.l2d (A.toInt64 + B.toInt64))), .second, .val (.ref o39), .val (.ref o40), .val (.double (own_qw sm (FP.l2d (A.toInt64)) (FP.i2d iR))), .second, .val (.double (own_qw sm (FP.l2d (A.toInt64 + B.toInt64)) (FP.i2d iR))), .second, .val (.double (FP.dmul (FP.i2d sm) (FP.i2d iR))), .second, .val (.int (1 : Int32))] [(.double (FP.i2d iR)), (.double (own_qw sm (FP.l2d (A.toInt64 + B.toInt64)) (FP.i2d iR)))]))
              refine Ends.pre (fun tt kt => XS.dcmpS X42.here hx rfl (v := (cmpValue (FP.dcmp (own_qw sm (FP.l2d (A.toInt64 + B.toInt64)) (FP.i2d iR)) (FP.i2d iR)) .g)) (hb hby at_374) rfl rfl kt) ?_
              show Ends p e below _ (T42.setTop (mkF m 375 #[.val (.int qR), .val (.int iR), .val (.int kR), .val (.int kS), .val (.int md), .val (.double (FP.i2d iR)), .second, .val (.int sm), .val (.int wh), .val (.int mm), .val (.double (FP.l2d (A.toInt64))), .second, .val (.double (FP.l2d (A.toInt64 + B.toInt64))), .second, .val (.ref o39), .val (.ref o40), .val (.double (own_qw sm (FP.l2d (A.toInt64)) (FP.i2d iR))), .second, .val (.double (own_qw sm (FP.l2d (A.toInt64 + B.toInt64)) (FP.i2d iR))), .second, .val (.double (FP.dmul (FP.i2d sm) (FP.i2d iR))), .second, .val (.int (1 : Int32))] [(.int (cmpValue (FP.dcmp (own_qw sm (FP.l2d (A.toInt64 + B.toInt64)) (FP.i2d iR)) (FP.i2d iR)) .g))]))
              refine Ends.pre (fun tt kt => XS.ifNo X42.here hx rfl (hb hby at_375) rfl ((if0 _ _).trans (flt l4.g).2.2.1) kt) ?_
              show Ends p e below _ (T42.setTop (mkF m 378 #[.val (.int qR), .val (.int iR), .val (.int kR), .val (.int kS), .val (.int md), .val (.double (FP.i2d iR)), .second, .val (.int sm), .val (.int wh), .val (.int mm), .val (.double (FP.l2d (A.toInt64))), .second, .val (.double (FP.l2d (A.toInt64 + B.toInt64))), .second, .val (.ref o39), .val (.ref o40), .val (.double (own_qw sm (FP.l2d (A.toInt64)) (FP.i2d iR))), .second, .val (.double (own_qw sm (FP.l2d (A.toInt64 + B.toInt64)) (FP.i2d iR))), .second, .val (.double (FP.dmul (FP.i2d sm) (FP.i2d iR))), .second, .val (.int (1 : Int32))] []))
              refine Ends.pre (fun tt kt => XS.dload X42.here hx rfl (hb hby at_378) rfl kt) ?_
              show Ends p e below _ (T42.setTop (mkF m 380 #[.val (.int qR), .val (.int iR), .val (.int kR), .val (.int kS), .val (.int md), .val (.double (FP.i2d iR)), .second, .val (.int sm), .val (.int wh), .val (.int mm), .val (.double (FP.l2d (A.toInt64))), .second, .val (.double (FP.l2d (A.toInt64 + B.toInt64))), .second, .val (.ref o39), .val (.ref o40), .val (.double (own_qw sm (FP.l2d (A.toInt64)) (FP.i2d iR))), .second, .val (.double (own_qw sm (FP.l2d (A.toInt64 + B.toInt64)) (FP.i2d iR))), .second, .val (.double (FP.dmul (FP.i2d sm) (FP.i2d iR))), .second, .val (.int (1 : Int32))] [(.double (own_qw sm (FP.l2d (A.toInt64 + B.toInt64)) (FP.i2d iR)))]))
              refine Ends.pre (fun tt kt => XS.dload X42.here hx rfl (hb hby at_380) rfl kt) ?_
              show Ends p e below _ (T42.setTop (mkF m 382 #[.val (.int qR), .val (.int iR), .val (.int kR), .val (.int kS), .val (.int md), .val (.double (FP.i2d iR)), .second, .val (.int sm), .val (.int wh), .val (.int mm), .val (.double (FP.l2d (A.toInt64))), .second, .val (.double (FP.l2d (A.toInt64 + B.toInt64))), .second, .val (.ref o39), .val (.ref o40), .val (.double (own_qw sm (FP.l2d (A.toInt64)) (FP.i2d iR))), .second, .val (.double (own_qw sm (FP.l2d (A.toInt64 + B.toInt64)) (FP.i2d iR))), .second, .val (.double (FP.dmul (FP.i2d sm) (FP.i2d iR))), .second, .val (.int (1 : Int32))] [(.double (own_qw sm (FP.l2d (A.toInt64)) (FP.i2d iR))), (.double (own_qw sm (FP.l2d (A.toInt64 + B.toInt64)) (FP.i2d iR)))]))
              refine Ends.pre (fun tt kt => XS.dcmpS X42.here hx rfl (v := (cmpValue (FP.dcmp (own_qw sm (FP.l2d (A.toInt64 + B.toInt64)) (FP.i2d iR)) (own_qw sm (FP.l2d (A.toInt64)) (FP.i2d iR))) .g)) (hb hby at_382) rfl rfl kt) ?_
              show Ends p e below _ (T42.setTop (mkF m 383 #[.val (.int qR), .val (.int iR), .val (.int kR), .val (.int kS), .val (.int md), .val (.double (FP.i2d iR)), .second, .val (.int sm), .val (.int wh), .val (.int mm), .val (.double (FP.l2d (A.toInt64))), .second, .val (.double (FP.l2d (A.toInt64 + B.toInt64))), .second, .val (.ref o39), .val (.ref o40), .val (.double (own_qw sm (FP.l2d (A.toInt64)) (FP.i2d iR))), .second, .val (.double (own_qw sm (FP.l2d (A.toInt64 + B.toInt64)) (FP.i2d iR))), .second, .val (.double (FP.dmul (FP.i2d sm) (FP.i2d iR))), .second, .val (.int (1 : Int32))] [(.int (cmpValue (FP.dcmp (own_qw sm (FP.l2d (A.toInt64 + B.toInt64)) (FP.i2d iR)) (own_qw sm (FP.l2d (A.toInt64)) (FP.i2d iR))) .g))]))
              refine Ends.pre (fun tt kt => XS.ifNo X42.here hx rfl (hb hby at_383) rfl ((if0 _ _).trans (flt l5.g).2.2.1) kt) ?_
              show Ends p e below _ (T42.setTop (mkF m 386 #[.val (.int qR), .val (.int iR), .val (.int kR), .val (.int kS), .val (.int md), .val (.double (FP.i2d iR)), .second, .val (.int sm), .val (.int wh), .val (.int mm), .val (.double (FP.l2d (A.toInt64))), .second, .val (.double (FP.l2d (A.toInt64 + B.toInt64))), .second, .val (.ref o39), .val (.ref o40), .val (.double (own_qw sm (FP.l2d (A.toInt64)) (FP.i2d iR))), .second, .val (.double (own_qw sm (FP.l2d (A.toInt64 + B.toInt64)) (FP.i2d iR))), .second, .val (.double (FP.dmul (FP.i2d sm) (FP.i2d iR))), .second, .val (.int (1 : Int32))] []))
              refine Ends.pre (fun tt kt => XS.iload X42.here hx rfl (hb hby at_386) rfl kt) ?_
              show Ends p e below _ (T42.setTop (mkF m 388 #[.val (.int qR), .val (.int iR), .val (.int kR), .val (.int kS), .val (.int md), .val (.double (FP.i2d iR)), .second, .val (.int sm), .val (.int wh), .val (.int mm), .val (.double (FP.l2d (A.toInt64))), .second, .val (.double (FP.l2d (A.toInt64 + B.toInt64))), .second, .val (.ref o39), .val (.ref o40), .val (.double (own_qw sm (FP.l2d (A.toInt64)) (FP.i2d iR))), .second, .val (.double (own_qw sm (FP.l2d (A.toInt64 + B.toInt64)) (FP.i2d iR))), .second, .val (.double (FP.dmul (FP.i2d sm) (FP.i2d iR))), .second, .val (.int (1 : Int32))] [(.int (1 : Int32))]))
              refine Ends.pre (fun tt kt => XS.ifNo X42.here hx rfl (hb hby at_388) rfl ((if0 _ _).trans (feq (by decide)).1) kt) ?_
              show Ends p e below _ (T42.setTop (mkF m 391 #[.val (.int qR), .val (.int iR), .val (.int kR), .val (.int kS), .val (.int md), .val (.double (FP.i2d iR)), .second, .val (.int sm), .val (.int wh), .val (.int mm), .val (.double (FP.l2d (A.toInt64))), .second, .val (.double (FP.l2d (A.toInt64 + B.toInt64))), .second, .val (.ref o39), .val (.ref o40), .val (.double (own_qw sm (FP.l2d (A.toInt64)) (FP.i2d iR))), .second, .val (.double (own_qw sm (FP.l2d (A.toInt64 + B.toInt64)) (FP.i2d iR))), .second, .val (.double (FP.dmul (FP.i2d sm) (FP.i2d iR))), .second, .val (.int (1 : Int32))] []))
              refine Ends.pre (fun tt kt => XS.iconst X42.here hx rfl (hb hby at_391) kt) ?_
              show Ends p e below _ (T42.setTop (mkF m 392 #[.val (.int qR), .val (.int iR), .val (.int kR), .val (.int kS), .val (.int md), .val (.double (FP.i2d iR)), .second, .val (.int sm), .val (.int wh), .val (.int mm), .val (.double (FP.l2d (A.toInt64))), .second, .val (.double (FP.l2d (A.toInt64 + B.toInt64))), .second, .val (.ref o39), .val (.ref o40), .val (.double (own_qw sm (FP.l2d (A.toInt64)) (FP.i2d iR))), .second, .val (.double (own_qw sm (FP.l2d (A.toInt64 + B.toInt64)) (FP.i2d iR))), .second, .val (.double (FP.dmul (FP.i2d sm) (FP.i2d iR))), .second, .val (.int (1 : Int32))] [(.int (1 : Int32))]))
              refine Ends.pre (fun tt kt => XS.goto X42.here hx rfl (pc0 := 392) (pc' := 396) rfl (hb hby at_392) (by decide) (by decide) kt) ?_
              show Ends p e below _ (T42.setTop (mkF m 396 #[.val (.int qR), .val (.int iR), .val (.int kR), .val (.int kS), .val (.int md), .val (.double (FP.i2d iR)), .second, .val (.int sm), .val (.int wh), .val (.int mm), .val (.double (FP.l2d (A.toInt64))), .second, .val (.double (FP.l2d (A.toInt64 + B.toInt64))), .second, .val (.ref o39), .val (.ref o40), .val (.double (own_qw sm (FP.l2d (A.toInt64)) (FP.i2d iR))), .second, .val (.double (own_qw sm (FP.l2d (A.toInt64 + B.toInt64)) (FP.i2d iR))), .second, .val (.double (FP.dmul (FP.i2d sm) (FP.i2d iR))), .second, .val (.int (1 : Int32))] [(.int (1 : Int32))]))
              obtain ⟨fs, hr, hrun, hended, hW, hsame⟩ := X42.leave (v := some (.int (1 : Int32))) (fun h => by rw [Bd.returns] at h; cases h)
              refine ⟨_, _, retN X42 hx (t := .boolean) Bd.returns (by simp) (hb hby at_396) hr, hrun, hended, _, _, rfl, ?_, ⟨_, rfl⟩, hW, hsame.mono (by decide) (by decide)⟩
              show Q0 Z _ _ _ _ _ _ _ _ _ _ _ _ h0 n0 _ T42.heap _
              rw [e42]
              exact ⟨rfl, N42⟩
            ·
              obtain ⟨l1, l2, l3, l4, l5, l6, l7⟩ := hpos hI
              have hn1' := own_n1 hn hs1
              refine Ends.pre (fun tt kt => XS.dload X42.here hx rfl (hb hby at_265) rfl kt) ?_
              show Ends p e below _ (T42.setTop (mkF m 267 #[.val (.int qR), .val (.int iR), .val (.int kR), .val (.int kS), .val (.int md), .val (.double (FP.i2d iR)), .second, .val (.int sm), .val (.int wh), .val (.int mm), .val (.double (FP.l2d (A.toInt64))), .second, .val (.double (FP.l2d (A.toInt64 + B.toInt64))), .second, .val (.ref o39), .val (.ref o40), .val (.double (own_qw sm (FP.l2d (A.toInt64)) (FP.i2d iR))), .second, .val (.double (own_qw sm (FP.l2d (A.toInt64 + B.toInt64)) (FP.i2d iR))), .second, .val (.double (FP.dmul (FP.i2d sm) (FP.i2d iR))), .second, .unset] [(.double (own_qw sm (FP.l2d (A.toInt64)) (FP.i2d iR)))]))
              refine Ends.pre (fun tt kt => XS.dload X42.here hx rfl (hb hby at_267) rfl kt) ?_
              show Ends p e below _ (T42.setTop (mkF m 269 #[.val (.int qR), .val (.int iR), .val (.int kR), .val (.int kS), .val (.int md), .val (.double (FP.i2d iR)), .second, .val (.int sm), .val (.int wh), .val (.int mm), .val (.double (FP.l2d (A.toInt64))), .second, .val (.double (FP.l2d (A.toInt64 + B.toInt64))), .second, .val (.ref o39), .val (.ref o40), .val (.double (own_qw sm (FP.l2d (A.toInt64)) (FP.i2d iR))), .second, .val (.double (own_qw sm (FP.l2d (A.toInt64 + B.toInt64)) (FP.i2d iR))), .second, .val (.double (FP.dmul (FP.i2d sm) (FP.i2d iR))), .second, .unset] [(.double (FP.i2d iR)), (.double (own_qw sm (FP.l2d (A.toInt64)) (FP.i2d iR)))]))
              refine Ends.pre (fun tt kt => XS.dcmpS X42.here hx rfl (v := (0 : Int32)) (hb hby at_269) rfl (LE.eq (own_le_trans l2 (l6 hn1')) l1) kt) ?_
              show Ends p e below _ (T42.setTop (mkF m 270 #[.val (.int qR), .val (.int iR), .val (.int kR), .val (.int kS), .val (.int md), .val (.double (FP.i2d iR)), .second, .val (.int sm), .val (.int wh), .val (.int mm), .val (.double (FP.l2d (A.toInt64))), .second, .val (.double (FP.l2d (A.toInt64 + B.toInt64))), .second, .val (.ref o39), .val (.ref o40), .val (.double (own_qw sm (FP.l2d (A.toInt64)) (FP.i2d iR))), .second, .val (.double (own_qw sm (FP.l2d (A.toInt64 + B.toInt64)) (FP.i2d iR))), .second, .val (.double (FP.dmul (FP.i2d sm) (FP.i2d iR))), .second, .unset] [(.int (0 : Int32))]))
              refine Ends.pre (fun tt kt => XS.ifNo X42.here hx rfl (hb hby at_270) rfl ((if0 _ _).trans (teq rfl).2) kt) ?_
              show Ends p e below _ (T42.setTop (mkF m 273 #[.val (.int qR), .val (.int iR), .val (.int kR), .val (.int kS), .val (.int md), .val (.double (FP.i2d iR)), .second, .val (.int sm), .val (.int wh), .val (.int mm), .val (.double (FP.l2d (A.toInt64))), .second, .val (.double (FP.l2d (A.toInt64 + B.toInt64))), .second, .val (.ref o39), .val (.ref o40), .val (.double (own_qw sm (FP.l2d (A.toInt64)) (FP.i2d iR))), .second, .val (.double (own_qw sm (FP.l2d (A.toInt64 + B.toInt64)) (FP.i2d iR))), .second, .val (.double (FP.dmul (FP.i2d sm) (FP.i2d iR))), .second, .unset] []))
              refine Ends.pre (fun tt kt => XS.dload X42.here hx rfl (hb hby at_273) rfl kt) ?_
              show Ends p e below _ (T42.setTop (mkF m 275 #[.val (.int qR), .val (.int iR), .val (.int kR), .val (.int kS), .val (.int md), .val (.double (FP.i2d iR)), .second, .val (.int sm), .val (.int wh), .val (.int mm), .val (.double (FP.l2d (A.toInt64))), .second, .val (.double (FP.l2d (A.toInt64 + B.toInt64))), .second, .val (.ref o39), .val (.ref o40), .val (.double (own_qw sm (FP.l2d (A.toInt64)) (FP.i2d iR))), .second, .val (.double (own_qw sm (FP.l2d (A.toInt64 + B.toInt64)) (FP.i2d iR))), .second, .val (.double (FP.dmul (FP.i2d sm) (FP.i2d iR))), .second, .unset] [(.double (own_qw sm (FP.l2d (A.toInt64 + B.toInt64)) (FP.i2d iR)))]))
              refine Ends.pre (fun tt kt => XS.dload X42.here hx rfl (hb hby at_275) rfl kt) ?_
              show Ends p e below _ (T42.setTop (mkF m 277 #[.val (.int qR), .val (.int iR), .val (.int kR), .val (.int kS), .val (.int md), .val (.double (FP.i2d iR)), .second, .val (.int sm), .val (.int wh), .val (.int mm), .val (.double (FP.l2d (A.toInt64))), .second, .val (.double (FP.l2d (A.toInt64 + B.toInt64))), .second, .val (.ref o39), .val (.ref o40), .val (.double (own_qw sm (FP.l2d (A.toInt64)) (FP.i2d iR))), .second, .val (.double (own_qw sm (FP.l2d (A.toInt64 + B.toInt64)) (FP.i2d iR))), .second, .val (.double (FP.dmul (FP.i2d sm) (FP.i2d iR))), .second, .unset] [(.double (FP.i2d iR)), (.double (own_qw sm (FP.l2d (A.toInt64 + B.toInt64)) (FP.i2d iR)))]))
              refine Ends.pre (fun tt kt => XS.dcmpS X42.here hx rfl (v := (0 : Int32)) (hb hby at_277) rfl (LE.eq (own_le_trans l4 (l6 hn1')) l3) kt) ?_
              show Ends p e below _ (T42.setTop (mkF m 278 #[.val (.int qR), .val (.int iR), .val (.int kR), .val (.int kS), .val (.int md), .val (.double (FP.i2d iR)), .second, .val (.int sm), .val (.int wh), .val (.int mm), .val (.double (FP.l2d (A.toInt64))), .second, .val (.double (FP.l2d (A.toInt64 + B.toInt64))), .second, .val (.ref o39), .val (.ref o40), .val (.double (own_qw sm (FP.l2d (A.toInt64)) (FP.i2d iR))), .second, .val (.double (own_qw sm (FP.l2d (A.toInt64 + B.toInt64)) (FP.i2d iR))), .second, .val (.double (FP.dmul (FP.i2d sm) (FP.i2d iR))), .second, .unset] [(.int (0 : Int32))]))
              refine Ends.pre (fun tt kt => XS.ifNo X42.here hx rfl (hb hby at_278) rfl ((if0 _ _).trans (teq rfl).2) kt) ?_
              show Ends p e below _ (T42.setTop (mkF m 281 #[.val (.int qR), .val (.int iR), .val (.int kR), .val (.int kS), .val (.int md), .val (.double (FP.i2d iR)), .second, .val (.int sm), .val (.int wh), .val (.int mm), .val (.double (FP.l2d (A.toInt64))), .second, .val (.double (FP.l2d (A.toInt64 + B.toInt64))), .second, .val (.ref o39), .val (.ref o40), .val (.double (own_qw sm (FP.l2d (A.toInt64)) (FP.i2d iR))), .second, .val (.double (own_qw sm (FP.l2d (A.toInt64 + B.toInt64)) (FP.i2d iR))), .second, .val (.double (FP.dmul (FP.i2d sm) (FP.i2d iR))), .second, .unset] []))
              refine Ends.pre (fun tt kt => XS.iconst X42.here hx rfl (hb hby at_281) kt) ?_
              show Ends p e below _ (T42.setTop (mkF m 282 #[.val (.int qR), .val (.int iR), .val (.int kR), .val (.int kS), .val (.int md), .val (.double (FP.i2d iR)), .second, .val (.int sm), .val (.int wh), .val (.int mm), .val (.double (FP.l2d (A.toInt64))), .second, .val (.double (FP.l2d (A.toInt64 + B.toInt64))), .second, .val (.ref o39), .val (.ref o40), .val (.double (own_qw sm (FP.l2d (A.toInt64)) (FP.i2d iR))), .second, .val (.double (own_qw sm (FP.l2d (A.toInt64 + B.toInt64)) (FP.i2d iR))), .second, .val (.double (FP.dmul (FP.i2d sm) (FP.i2d iR))), .second, .unset] [(.int (1 : Int32))]))
              refine Ends.pre (fun tt kt => XS.goto X42.here hx rfl (pc0 := 282) (pc' := 286) rfl (hb hby at_282) (by decide) (by decide) kt) ?_
              show Ends p e below _ (T42.setTop (mkF m 286 #[.val (.int qR), .val (.int iR), .val (.int kR), .val (.int kS), .val (.int md), .val (.double (FP.i2d iR)), .second, .val (.int sm), .val (.int wh), .val (.int mm), .val (.double (FP.l2d (A.toInt64))), .second, .val (.double (FP.l2d (A.toInt64 + B.toInt64))), .second, .val (.ref o39), .val (.ref o40), .val (.double (own_qw sm (FP.l2d (A.toInt64)) (FP.i2d iR))), .second, .val (.double (own_qw sm (FP.l2d (A.toInt64 + B.toInt64)) (FP.i2d iR))), .second, .val (.double (FP.dmul (FP.i2d sm) (FP.i2d iR))), .second, .unset] [(.int (1 : Int32))]))
              refine Ends.pre (fun tt kt => XS.istore X42.here hx rfl (hb hby at_286) rfl (l' := #[.val (.int qR), .val (.int iR), .val (.int kR), .val (.int kS), .val (.int md), .val (.double (FP.i2d iR)), .second, .val (.int sm), .val (.int wh), .val (.int mm), .val (.double (FP.l2d (A.toInt64))), .second, .val (.double (FP.l2d (A.toInt64 + B.toInt64))), .second, .val (.ref o39), .val (.ref o40), .val (.double (own_qw sm (FP.l2d (A.toInt64)) (FP.i2d iR))), .second, .val (.double (own_qw sm (FP.l2d (A.toInt64 + B.toInt64)) (FP.i2d iR))), .second, .val (.double (FP.dmul (FP.i2d sm) (FP.i2d iR))), .second, .val (.int (1 : Int32))]) rfl kt) ?_
              show Ends p e below _ (T42.setTop (mkF m 288 #[.val (.int qR), .val (.int iR), .val (.int kR), .val (.int kS), .val (.int md), .val (.double (FP.i2d iR)), .second, .val (.int sm), .val (.int wh), .val (.int mm), .val (.double (FP.l2d (A.toInt64))), .second, .val (.double (FP.l2d (A.toInt64 + B.toInt64))), .second, .val (.ref o39), .val (.ref o40), .val (.double (own_qw sm (FP.l2d (A.toInt64)) (FP.i2d iR))), .second, .val (.double (own_qw sm (FP.l2d (A.toInt64 + B.toInt64)) (FP.i2d iR))), .second, .val (.double (FP.dmul (FP.i2d sm) (FP.i2d iR))), .second, .val (.int (1 : Int32))] []))
              refine Ends.pre (fun tt kt => XS.dload X42.here hx rfl (hb hby at_288) rfl kt) ?_
              show Ends p e below _ (T42.setTop (mkF m 290 #[.val (.int qR), .val (.int iR), .val (.int kR), .val (.int kS), .val (.int md), .val (.double (FP.i2d iR)), .second, .val (.int sm), .val (.int wh), .val (.int mm), .val (.double (FP.l2d (A.toInt64))), .second, .val (.double (FP.l2d (A.toInt64 + B.toInt64))), .second, .val (.ref o39), .val (.ref o40), .val (.double (own_qw sm (FP.l2d (A.toInt64)) (FP.i2d iR))), .second, .val (.double (own_qw sm (FP.l2d (A.toInt64 + B.toInt64)) (FP.i2d iR))), .second, .val (.double (FP.dmul (FP.i2d sm) (FP.i2d iR))), .second, .val (.int (1 : Int32))] [(.double (FP.i2d iR))]))
              refine Ends.pre (fun tt kt => XS.dconst0 X42.here hx rfl (hb hby at_290) rfl kt) ?_
              show Ends p e below _ (T42.setTop (mkF m 291 #[.val (.int qR), .val (.int iR), .val (.int kR), .val (.int kS), .val (.int md), .val (.double (FP.i2d iR)), .second, .val (.int sm), .val (.int wh), .val (.int mm), .val (.double (FP.l2d (A.toInt64))), .second, .val (.double (FP.l2d (A.toInt64 + B.toInt64))), .second, .val (.ref o39), .val (.ref o40), .val (.double (own_qw sm (FP.l2d (A.toInt64)) (FP.i2d iR))), .second, .val (.double (own_qw sm (FP.l2d (A.toInt64 + B.toInt64)) (FP.i2d iR))), .second, .val (.double (FP.dmul (FP.i2d sm) (FP.i2d iR))), .second, .val (.int (1 : Int32))] [(.double FP.dconst0), (.double (FP.i2d iR))]))
              refine Ends.pre (fun tt kt => XS.dcmpS X42.here hx rfl (v := (cmpValue (FP.dcmp (FP.i2d iR) FP.dconst0) .l)) (hb hby at_291) rfl rfl kt) ?_
              show Ends p e below _ (T42.setTop (mkF m 292 #[.val (.int qR), .val (.int iR), .val (.int kR), .val (.int kS), .val (.int md), .val (.double (FP.i2d iR)), .second, .val (.int sm), .val (.int wh), .val (.int mm), .val (.double (FP.l2d (A.toInt64))), .second, .val (.double (FP.l2d (A.toInt64 + B.toInt64))), .second, .val (.ref o39), .val (.ref o40), .val (.double (own_qw sm (FP.l2d (A.toInt64)) (FP.i2d iR))), .second, .val (.double (own_qw sm (FP.l2d (A.toInt64 + B.toInt64)) (FP.i2d iR))), .second, .val (.double (FP.dmul (FP.i2d sm) (FP.i2d iR))), .second, .val (.int (1 : Int32))] [(.int (cmpValue (FP.dcmp (FP.i2d iR) FP.dconst0) .l))]))
              refine Ends.pre (fun tt kt => XS.ifNo X42.here hx rfl (hb hby at_292) rfl ((if0 _ _).trans (flt l7).1) kt) ?_
              show Ends p e below _ (T42.setTop (mkF m 295 #[.val (.int qR), .val (.int iR), .val (.int kR), .val (.int kS), .val (.int md), .val (.double (FP.i2d iR)), .second, .val (.int sm), .val (.int wh), .val (.int mm), .val (.double (FP.l2d (A.toInt64))), .second, .val (.double (FP.l2d (A.toInt64 + B.toInt64))), .second, .val (.ref o39), .val (.ref o40), .val (.double (own_qw sm (FP.l2d (A.toInt64)) (FP.i2d iR))), .second, .val (.double (own_qw sm (FP.l2d (A.toInt64 + B.toInt64)) (FP.i2d iR))), .second, .val (.double (FP.dmul (FP.i2d sm) (FP.i2d iR))), .second, .val (.int (1 : Int32))] []))
              refine Ends.pre (fun tt kt => XS.dload X42.here hx rfl (hb hby at_295) rfl kt) ?_
              show Ends p e below _ (T42.setTop (mkF m 297 #[.val (.int qR), .val (.int iR), .val (.int kR), .val (.int kS), .val (.int md), .val (.double (FP.i2d iR)), .second, .val (.int sm), .val (.int wh), .val (.int mm), .val (.double (FP.l2d (A.toInt64))), .second, .val (.double (FP.l2d (A.toInt64 + B.toInt64))), .second, .val (.ref o39), .val (.ref o40), .val (.double (own_qw sm (FP.l2d (A.toInt64)) (FP.i2d iR))), .second, .val (.double (own_qw sm (FP.l2d (A.toInt64 + B.toInt64)) (FP.i2d iR))), .second, .val (.double (FP.dmul (FP.i2d sm) (FP.i2d iR))), .second, .val (.int (1 : Int32))] [(.double (FP.i2d iR))]))
              refine Ends.pre (fun tt kt => XS.dload X42.here hx rfl (hb hby at_297) rfl kt) ?_
              show Ends p e below _ (T42.setTop (mkF m 299 #[.val (.int qR), .val (.int iR), .val (.int kR), .val (.int kS), .val (.int md), .val (.double (FP.i2d iR)), .second, .val (.int sm), .val (.int wh), .val (.int mm), .val (.double (FP.l2d (A.toInt64))), .second, .val (.double (FP.l2d (A.toInt64 + B.toInt64))), .second, .val (.ref o39), .val (.ref o40), .val (.double (own_qw sm (FP.l2d (A.toInt64)) (FP.i2d iR))), .second, .val (.double (own_qw sm (FP.l2d (A.toInt64 + B.toInt64)) (FP.i2d iR))), .second, .val (.double (FP.dmul (FP.i2d sm) (FP.i2d iR))), .second, .val (.int (1 : Int32))] [(.double (own_qw sm (FP.l2d (A.toInt64)) (FP.i2d iR))), (.double (FP.i2d iR))]))
              refine Ends.pre (fun tt kt => XS.dcmpS X42.here hx rfl (v := (cmpValue (FP.dcmp (FP.i2d iR) (own_qw sm (FP.l2d (A.toInt64)) (FP.i2d iR))) .g)) (hb hby at_299) rfl rfl kt) ?_
              show Ends p e below _ (T42.setTop (mkF m 300 #[.val (.int qR), .val (.int iR), .val (.int kR), .val (.int kS), .val (.int md), .val (.double (FP.i2d iR)), .second, .val (.int sm), .val (.int wh), .val (.int mm), .val (.double (FP.l2d (A.toInt64))), .second, .val (.double (FP.l2d (A.toInt64 + B.toInt64))), .second, .val (.ref o39), .val (.ref o40), .val (.double (own_qw sm (FP.l2d (A.toInt64)) (FP.i2d iR))), .second, .val (.double (own_qw sm (FP.l2d (A.toInt64 + B.toInt64)) (FP.i2d iR))), .second, .val (.double (FP.dmul (FP.i2d sm) (FP.i2d iR))), .second, .val (.int (1 : Int32))] [(.int (cmpValue (FP.dcmp (FP.i2d iR) (own_qw sm (FP.l2d (A.toInt64)) (FP.i2d iR))) .g))]))
              refine Ends.pre (fun tt kt => XS.ifNo X42.here hx rfl (hb hby at_300) rfl ((if0 _ _).trans (flt l1.g).2.2.1) kt) ?_
              show Ends p e below _ (T42.setTop (mkF m 303 #[.val (.int qR), .val (.int iR), .val (.int kR), .val (.int kS), .val (.int md), .val (.double (FP.i2d iR)), .second, .val (.int sm), .val (.int wh), .val (.int mm), .val (.double (FP.l2d (A.toInt64))), .second, .val (.double (FP.l2d (A.toInt64 + B.toInt64))), .second, .val (.ref o39), .val (.ref o40), .val (.double (own_qw sm (FP.l2d (A.toInt64)) (FP.i2d iR))), .second, .val (.double (own_qw sm (FP.l2d (A.toInt64 + B.toInt64)) (FP.i2d iR))), .second, .val (.double (FP.dmul (FP.i2d sm) (FP.i2d iR))), .second, .val (.int (1 : Int32))] []))
              refine Ends.pre (fun tt kt => XS.dload X42.here hx rfl (hb hby at_303) rfl kt) ?_
              show Ends p e below _ (T42.setTop (mkF m 305 #[.val (.int qR), .val (.int iR), .val (.int kR), .val (.int kS), .val (.int md), .val (.double (FP.i2d iR)), .second, .val (.int sm), .val (.int wh), .val (.int mm), .val (.double (FP.l2d (A.toInt64))), .second, .val (.double (FP.l2d (A.toInt64 + B.toInt64))), .second, .val (.ref o39), .val (.ref o40), .val (.double (own_qw sm (FP.l2d (A.toInt64)) (FP.i2d iR))), .second, .val (.double (own_qw sm (FP.l2d (A.toInt64 + B.toInt64)) (FP.i2d iR))), .second, .val (.double (FP.dmul (FP.i2d sm) (FP.i2d iR))), .second, .val (.int (1 : Int32))] [(.double (own_qw sm (FP.l2d (A.toInt64)) (FP.i2d iR)))]))
              refine Ends.pre (fun tt kt => XS.dload X42.here hx rfl (hb hby at_305) rfl kt) ?_
              show Ends p e below _ (T42.setTop (mkF m 307 #[.val (.int qR), .val (.int iR), .val (.int kR), .val (.int kS), .val (.int md), .val (.double (FP.i2d iR)), .second, .val (.int sm), .val (.int wh), .val (.int mm), .val (.double (FP.l2d (A.toInt64))), .second, .val (.double (FP.l2d (A.toInt64 + B.toInt64))), .second, .val (.ref o39), .val (.ref o40), .val (.double (own_qw sm (FP.l2d (A.toInt64)) (FP.i2d iR))), .second, .val (.double (own_qw sm (FP.l2d (A.toInt64 + B.toInt64)) (FP.i2d iR))), .second, .val (.double (FP.dmul (FP.i2d sm) (FP.i2d iR))), .second, .val (.int (1 : Int32))] [(.double (FP.dmul (FP.i2d sm) (FP.i2d iR))), (.double (own_qw sm (FP.l2d (A.toInt64)) (FP.i2d iR)))]))
              refine Ends.pre (fun tt kt => XS.dcmpS X42.here hx rfl (v := (cmpValue (FP.dcmp (own_qw sm (FP.l2d (A.toInt64)) (FP.i2d iR)) (FP.dmul (FP.i2d sm) (FP.i2d iR))) .g)) (hb hby at_307) rfl rfl kt) ?_
              show Ends p e below _ (T42.setTop (mkF m 308 #[.val (.int qR), .val (.int iR), .val (.int kR), .val (.int kS), .val (.int md), .val (.double (FP.i2d iR)), .second, .val (.int sm), .val (.int wh), .val (.int mm), .val (.double (FP.l2d (A.toInt64))), .second, .val (.double (FP.l2d (A.toInt64 + B.toInt64))), .second, .val (.ref o39), .val (.ref o40), .val (.double (own_qw sm (FP.l2d (A.toInt64)) (FP.i2d iR))), .second, .val (.double (own_qw sm (FP.l2d (A.toInt64 + B.toInt64)) (FP.i2d iR))), .second, .val (.double (FP.dmul (FP.i2d sm) (FP.i2d iR))), .second, .val (.int (1 : Int32))] [(.int (cmpValue (FP.dcmp (own_qw sm (FP.l2d (A.toInt64)) (FP.i2d iR)) (FP.dmul (FP.i2d sm) (FP.i2d iR))) .g))]))
              refine Ends.pre (fun tt kt => XS.ifNo X42.here hx rfl (hb hby at_308) rfl ((if0 _ _).trans (flt l2.g).2.2.1) kt) ?_
              show Ends p e below _ (T42.setTop (mkF m 311 #[.val (.int qR), .val (.int iR), .val (.int kR), .val (.int kS), .val (.int md), .val (.double (FP.i2d iR)), .second, .val (.int sm), .val (.int wh), .val (.int mm), .val (.double (FP.l2d (A.toInt64))), .second, .val (.double (FP.l2d (A.toInt64 + B.toInt64))), .second, .val (.ref o39), .val (.ref o40), .val (.double (own_qw sm (FP.l2d (A.toInt64)) (FP.i2d iR))), .second, .val (.double (own_qw sm (FP.l2d (A.toInt64 + B.toInt64)) (FP.i2d iR))), .second, .val (.double (FP.dmul (FP.i2d sm) (FP.i2d iR))), .second, .val (.int (1 : Int32))] []))
              refine Ends.pre (fun tt kt => XS.dload X42.here hx rfl (hb hby at_311) rfl kt) ?_
              show Ends p e below _ (T42.setTop (mkF m 313 #[.val (.int qR), .val (.int iR), .val (.int kR), .val (.int kS), .val (.int md), .val (.double (FP.i2d iR)), .second, .val (.int sm), .val (.int wh), .val (.int mm), .val (.double (FP.l2d (A.toInt64))), .second, .val (.double (FP.l2d (A.toInt64 + B.toInt64))), .second, .val (.ref o39), .val (.ref o40), .val (.double (own_qw sm (FP.l2d (A.toInt64)) (FP.i2d iR))), .second, .val (.double (own_qw sm (FP.l2d (A.toInt64 + B.toInt64)) (FP.i2d iR))), .second, .val (.double (FP.dmul (FP.i2d sm) (FP.i2d iR))), .second, .val (.int (1 : Int32))] [(.double (FP.i2d iR))]))
              refine Ends.pre (fun tt kt => XS.dload X42.here hx rfl (hb hby at_313) rfl kt) ?_
              show Ends p e below _ (T42.setTop (mkF m 315 #[.val (.int qR), .val (.int iR), .val (.int kR), .val (.int kS), .val (.int md), .val (.double (FP.i2d iR)), .second, .val (.int sm), .val (.int wh), .val (.int mm), .val (.double (FP.l2d (A.toInt64))), .second, .val (.double (FP.l2d (A.toInt64 + B.toInt64))), .second, .val (.ref o39), .val (.ref o40), .val (.double (own_qw sm (FP.l2d (A.toInt64)) (FP.i2d iR))), .second, .val (.double (own_qw sm (FP.l2d (A.toInt64 + B.toInt64)) (FP.i2d iR))), .second, .val (.double (FP.dmul (FP.i2d sm) (FP.i2d iR))), .second, .val (.int (1 : Int32))] [(.double (own_qw sm (FP.l2d (A.toInt64 + B.toInt64)) (FP.i2d iR))), (.double (FP.i2d iR))]))
              refine Ends.pre (fun tt kt => XS.dcmpS X42.here hx rfl (v := (cmpValue (FP.dcmp (FP.i2d iR) (own_qw sm (FP.l2d (A.toInt64 + B.toInt64)) (FP.i2d iR))) .g)) (hb hby at_315) rfl rfl kt) ?_
              show Ends p e below _ (T42.setTop (mkF m 316 #[.val (.int qR), .val (.int iR), .val (.int kR), .val (.int kS), .val (.int md), .val (.double (FP.i2d iR)), .second, .val (.int sm), .val (.int wh), .val (.int mm), .val (.double (FP.l2d (A.toInt64))), .second, .val (.double (FP.l2d (A.toInt64 + B.toInt64))), .second, .val (.ref o39), .val (.ref o40), .val (.double (own_qw sm (FP.l2d (A.toInt64)) (FP.i2d iR))), .second, .val (.double (own_qw sm (FP.l2d (A.toInt64 + B.toInt64)) (FP.i2d iR))), .second, .val (.double (FP.dmul (FP.i2d sm) (FP.i2d iR))), .second, .val (.int (1 : Int32))] [(.int (cmpValue (FP.dcmp (FP.i2d iR) (own_qw sm (FP.l2d (A.toInt64 + B.toInt64)) (FP.i2d iR))) .g))]))
              refine Ends.pre (fun tt kt => XS.ifNo X42.here hx rfl (hb hby at_316) rfl ((if0 _ _).trans (flt l3.g).2.2.1) kt) ?_
              show Ends p e below _ (T42.setTop (mkF m 319 #[.val (.int qR), .val (.int iR), .val (.int kR), .val (.int kS), .val (.int md), .val (.double (FP.i2d iR)), .second, .val (.int sm), .val (.int wh), .val (.int mm), .val (.double (FP.l2d (A.toInt64))), .second, .val (.double (FP.l2d (A.toInt64 + B.toInt64))), .second, .val (.ref o39), .val (.ref o40), .val (.double (own_qw sm (FP.l2d (A.toInt64)) (FP.i2d iR))), .second, .val (.double (own_qw sm (FP.l2d (A.toInt64 + B.toInt64)) (FP.i2d iR))), .second, .val (.double (FP.dmul (FP.i2d sm) (FP.i2d iR))), .second, .val (.int (1 : Int32))] []))
              refine Ends.pre (fun tt kt => XS.dload X42.here hx rfl (hb hby at_319) rfl kt) ?_
              show Ends p e below _ (T42.setTop (mkF m 321 #[.val (.int qR), .val (.int iR), .val (.int kR), .val (.int kS), .val (.int md), .val (.double (FP.i2d iR)), .second, .val (.int sm), .val (.int wh), .val (.int mm), .val (.double (FP.l2d (A.toInt64))), .second, .val (.double (FP.l2d (A.toInt64 + B.toInt64))), .second, .val (.ref o39), .val (.ref o40), .val (.double (own_qw sm (FP.l2d (A.toInt64)) (FP.i2d iR))), .second, .val (.double (own_qw sm (FP.l2d (A.toInt64 + B.toInt64)) (FP.i2d iR))), .second, .val (.double (FP.dmul (FP.i2d sm) (FP.i2d iR))), .second, .val (.int (1 : Int32))] [(.double (own_qw sm (FP.l2d (A.toInt64 + B.toInt64)) (FP.i2d iR)))]))
              refine Ends.pre (fun tt kt => XS.dload X42.here hx rfl (hb hby at_321) rfl kt) ?_
              show Ends p e below _ (T42.setTop (mkF m 323 #[.val (.int qR), .val (.int iR), .val (.int kR), .val (.int kS), .val (.int md), .val (.double (FP.i2d iR)), .second, .val (.int sm), .val (.int wh), .val (.int mm), .val (.double (FP.l2d (A.toInt64))), .second, .val (.double (FP.l2d (A.toInt64 + B.toInt64))), .second, .val (.ref o39), .val (.ref o40), .val (.double (own_qw sm (FP.l2d (A.toInt64)) (FP.i2d iR))), .second, .val (.double (own_qw sm (FP.l2d (A.toInt64 + B.toInt64)) (FP.i2d iR))), .second, .val (.double (FP.dmul (FP.i2d sm) (FP.i2d iR))), .second, .val (.int (1 : Int32))] [(.double (FP.dmul (FP.i2d sm) (FP.i2d iR))), (.double (own_qw sm (FP.l2d (A.toInt64 + B.toInt64)) (FP.i2d iR)))]))
              refine Ends.pre (fun tt kt => XS.dcmpS X42.here hx rfl (v := (cmpValue (FP.dcmp (own_qw sm (FP.l2d (A.toInt64 + B.toInt64)) (FP.i2d iR)) (FP.dmul (FP.i2d sm) (FP.i2d iR))) .g)) (hb hby at_323) rfl rfl kt) ?_
              show Ends p e below _ (T42.setTop (mkF m 324 #[.val (.int qR), .val (.int iR), .val (.int kR), .val (.int kS), .val (.int md), .val (.double (FP.i2d iR)), .second, .val (.int sm), .val (.int wh), .val (.int mm), .val (.double (FP.l2d (A.toInt64))), .second, .val (.double (FP.l2d (A.toInt64 + B.toInt64))), .second, .val (.ref o39), .val (.ref o40), .val (.double (own_qw sm (FP.l2d (A.toInt64)) (FP.i2d iR))), .second, .val (.double (own_qw sm (FP.l2d (A.toInt64 + B.toInt64)) (FP.i2d iR))), .second, .val (.double (FP.dmul (FP.i2d sm) (FP.i2d iR))), .second, .val (.int (1 : Int32))] [(.int (cmpValue (FP.dcmp (own_qw sm (FP.l2d (A.toInt64 + B.toInt64)) (FP.i2d iR)) (FP.dmul (FP.i2d sm) (FP.i2d iR))) .g))]))
              refine Ends.pre (fun tt kt => XS.ifNo X42.here hx rfl (hb hby at_324) rfl ((if0 _ _).trans (flt l4.g).2.2.1) kt) ?_
              show Ends p e below _ (T42.setTop (mkF m 327 #[.val (.int qR), .val (.int iR), .val (.int kR), .val (.int kS), .val (.int md), .val (.double (FP.i2d iR)), .second, .val (.int sm), .val (.int wh), .val (.int mm), .val (.double (FP.l2d (A.toInt64))), .second, .val (.double (FP.l2d (A.toInt64 + B.toInt64))), .second, .val (.ref o39), .val (.ref o40), .val (.double (own_qw sm (FP.l2d (A.toInt64)) (FP.i2d iR))), .second, .val (.double (own_qw sm (FP.l2d (A.toInt64 + B.toInt64)) (FP.i2d iR))), .second, .val (.double (FP.dmul (FP.i2d sm) (FP.i2d iR))), .second, .val (.int (1 : Int32))] []))
              refine Ends.pre (fun tt kt => XS.dload X42.here hx rfl (hb hby at_327) rfl kt) ?_
              show Ends p e below _ (T42.setTop (mkF m 329 #[.val (.int qR), .val (.int iR), .val (.int kR), .val (.int kS), .val (.int md), .val (.double (FP.i2d iR)), .second, .val (.int sm), .val (.int wh), .val (.int mm), .val (.double (FP.l2d (A.toInt64))), .second, .val (.double (FP.l2d (A.toInt64 + B.toInt64))), .second, .val (.ref o39), .val (.ref o40), .val (.double (own_qw sm (FP.l2d (A.toInt64)) (FP.i2d iR))), .second, .val (.double (own_qw sm (FP.l2d (A.toInt64 + B.toInt64)) (FP.i2d iR))), .second, .val (.double (FP.dmul (FP.i2d sm) (FP.i2d iR))), .second, .val (.int (1 : Int32))] [(.double (own_qw sm (FP.l2d (A.toInt64)) (FP.i2d iR)))]))
              refine Ends.pre (fun tt kt => XS.dload X42.here hx rfl (hb hby at_329) rfl kt) ?_
              show Ends p e below _ (T42.setTop (mkF m 331 #[.val (.int qR), .val (.int iR), .val (.int kR), .val (.int kS), .val (.int md), .val (.double (FP.i2d iR)), .second, .val (.int sm), .val (.int wh), .val (.int mm), .val (.double (FP.l2d (A.toInt64))), .second, .val (.double (FP.l2d (A.toInt64 + B.toInt64))), .second, .val (.ref o39), .val (.ref o40), .val (.double (own_qw sm (FP.l2d (A.toInt64)) (FP.i2d iR))), .second, .val (.double (own_qw sm (FP.l2d (A.toInt64 + B.toInt64)) (FP.i2d iR))), .second, .val (.double (FP.dmul (FP.i2d sm) (FP.i2d iR))), .second, .val (.int (1 : Int32))] [(.double (own_qw sm (FP.l2d (A.toInt64 + B.toInt64)) (FP.i2d iR))), (.double (own_qw sm (FP.l2d (A.toInt64)) (FP.i2d iR)))]))
              refine Ends.pre (fun tt kt => XS.dcmpS X42.here hx rfl (v := (cmpValue (FP.dcmp (own_qw sm (FP.l2d (A.toInt64)) (FP.i2d iR)) (own_qw sm (FP.l2d (A.toInt64 + B.toInt64)) (FP.i2d iR))) .g)) (hb hby at_331) rfl rfl kt) ?_
              show Ends p e below _ (T42.setTop (mkF m 332 #[.val (.int qR), .val (.int iR), .val (.int kR), .val (.int kS), .val (.int md), .val (.double (FP.i2d iR)), .second, .val (.int sm), .val (.int wh), .val (.int mm), .val (.double (FP.l2d (A.toInt64))), .second, .val (.double (FP.l2d (A.toInt64 + B.toInt64))), .second, .val (.ref o39), .val (.ref o40), .val (.double (own_qw sm (FP.l2d (A.toInt64)) (FP.i2d iR))), .second, .val (.double (own_qw sm (FP.l2d (A.toInt64 + B.toInt64)) (FP.i2d iR))), .second, .val (.double (FP.dmul (FP.i2d sm) (FP.i2d iR))), .second, .val (.int (1 : Int32))] [(.int (cmpValue (FP.dcmp (own_qw sm (FP.l2d (A.toInt64)) (FP.i2d iR)) (own_qw sm (FP.l2d (A.toInt64 + B.toInt64)) (FP.i2d iR))) .g))]))
              refine Ends.pre (fun tt kt => XS.ifNo X42.here hx rfl (hb hby at_332) rfl ((if0 _ _).trans (flt l5.g).2.2.1) kt) ?_
              show Ends p e below _ (T42.setTop (mkF m 335 #[.val (.int qR), .val (.int iR), .val (.int kR), .val (.int kS), .val (.int md), .val (.double (FP.i2d iR)), .second, .val (.int sm), .val (.int wh), .val (.int mm), .val (.double (FP.l2d (A.toInt64))), .second, .val (.double (FP.l2d (A.toInt64 + B.toInt64))), .second, .val (.ref o39), .val (.ref o40), .val (.double (own_qw sm (FP.l2d (A.toInt64)) (FP.i2d iR))), .second, .val (.double (own_qw sm (FP.l2d (A.toInt64 + B.toInt64)) (FP.i2d iR))), .second, .val (.double (FP.dmul (FP.i2d sm) (FP.i2d iR))), .second, .val (.int (1 : Int32))] []))
              refine Ends.pre (fun tt kt => XS.iload X42.here hx rfl (hb hby at_335) rfl kt) ?_
              show Ends p e below _ (T42.setTop (mkF m 337 #[.val (.int qR), .val (.int iR), .val (.int kR), .val (.int kS), .val (.int md), .val (.double (FP.i2d iR)), .second, .val (.int sm), .val (.int wh), .val (.int mm), .val (.double (FP.l2d (A.toInt64))), .second, .val (.double (FP.l2d (A.toInt64 + B.toInt64))), .second, .val (.ref o39), .val (.ref o40), .val (.double (own_qw sm (FP.l2d (A.toInt64)) (FP.i2d iR))), .second, .val (.double (own_qw sm (FP.l2d (A.toInt64 + B.toInt64)) (FP.i2d iR))), .second, .val (.double (FP.dmul (FP.i2d sm) (FP.i2d iR))), .second, .val (.int (1 : Int32))] [(.int (1 : Int32))]))
              refine Ends.pre (fun tt kt => XS.ifNo X42.here hx rfl (hb hby at_337) rfl ((if0 _ _).trans (feq (by decide)).1) kt) ?_
              show Ends p e below _ (T42.setTop (mkF m 340 #[.val (.int qR), .val (.int iR), .val (.int kR), .val (.int kS), .val (.int md), .val (.double (FP.i2d iR)), .second, .val (.int sm), .val (.int wh), .val (.int mm), .val (.double (FP.l2d (A.toInt64))), .second, .val (.double (FP.l2d (A.toInt64 + B.toInt64))), .second, .val (.ref o39), .val (.ref o40), .val (.double (own_qw sm (FP.l2d (A.toInt64)) (FP.i2d iR))), .second, .val (.double (own_qw sm (FP.l2d (A.toInt64 + B.toInt64)) (FP.i2d iR))), .second, .val (.double (FP.dmul (FP.i2d sm) (FP.i2d iR))), .second, .val (.int (1 : Int32))] []))
              refine Ends.pre (fun tt kt => XS.iconst X42.here hx rfl (hb hby at_340) kt) ?_
              show Ends p e below _ (T42.setTop (mkF m 341 #[.val (.int qR), .val (.int iR), .val (.int kR), .val (.int kS), .val (.int md), .val (.double (FP.i2d iR)), .second, .val (.int sm), .val (.int wh), .val (.int mm), .val (.double (FP.l2d (A.toInt64))), .second, .val (.double (FP.l2d (A.toInt64 + B.toInt64))), .second, .val (.ref o39), .val (.ref o40), .val (.double (own_qw sm (FP.l2d (A.toInt64)) (FP.i2d iR))), .second, .val (.double (own_qw sm (FP.l2d (A.toInt64 + B.toInt64)) (FP.i2d iR))), .second, .val (.double (FP.dmul (FP.i2d sm) (FP.i2d iR))), .second, .val (.int (1 : Int32))] [(.int (1 : Int32))]))
              refine Ends.pre (fun tt kt => XS.goto X42.here hx rfl (pc0 := 341) (pc' := 345) rfl (hb hby at_341) (by decide) (by decide) kt) ?_
              show Ends p e below _ (T42.setTop (mkF m 345 #[.val (.int qR), .val (.int iR), .val (.int kR), .val (.int kS), .val (.int md), .val (.double (FP.i2d iR)), .second, .val (.int sm), .val (.int wh), .val (.int mm), .val (.double (FP.l2d (A.toInt64))), .second, .val (.double (FP.l2d (A.toInt64 + B.toInt64))), .second, .val (.ref o39), .val (.ref o40), .val (.double (own_qw sm (FP.l2d (A.toInt64)) (FP.i2d iR))), .second, .val (.double (own_qw sm (FP.l2d (A.toInt64 + B.toInt64)) (FP.i2d iR))), .second, .val (.double (FP.dmul (FP.i2d sm) (FP.i2d iR))), .second, .val (.int (1 : Int32))] [(.int (1 : Int32))]))
              obtain ⟨fs, hr, hrun, hended, hW, hsame⟩ := X42.leave (v := some (.int (1 : Int32))) (fun h => by rw [Bd.returns] at h; cases h)
              refine ⟨_, _, retN X42 hx (t := .boolean) Bd.returns (by simp) (hb hby at_345) hr, hrun, hended, _, _, rfl, ?_, ⟨_, rfl⟩, hW, hsame.mono (by decide) (by decide)⟩
              show Q0 Z _ _ _ _ _ _ _ _ _ _ _ _ h0 n0 _ T42.heap _
              rw [e42]
              exact ⟨rfl, N42⟩
          ·
            refine Ends.pre (fun tt kt => XS.icmpYes X42.here hx rfl (pc0 := 262) (pc' := 281) rfl (hb hby at_262) rfl (feq hs1).2 (by decide) (by decide) kt) ?_
            show Ends p e below _ (T42.setTop (mkF m 281 #[.val (.int qR), .val (.int iR), .val (.int kR), .val (.int kS), .val (.int md), .val (.double (FP.i2d iR)), .second, .val (.int sm), .val (.int wh), .val (.int mm), .val (.double (FP.l2d (A.toInt64))), .second, .val (.double (FP.l2d (A.toInt64 + B.toInt64))), .second, .val (.ref o39), .val (.ref o40), .val (.double (own_qw sm (FP.l2d (A.toInt64)) (FP.i2d iR))), .second, .val (.double (own_qw sm (FP.l2d (A.toInt64 + B.toInt64)) (FP.i2d iR))), .second, .val (.double (FP.dmul (FP.i2d sm) (FP.i2d iR))), .second, .unset] []))
            by_cases hI : iR.toInt < 0
            ·
              obtain ⟨l1, l2, l3, l4, l5, l6, l7⟩ := hneg hI
              refine Ends.pre (fun tt kt => XS.iconst X42.here hx rfl (hb hby at_281) kt) ?_
              show Ends p e below _ (T42.setTop (mkF m 282 #[.val (.int qR), .val (.int iR), .val (.int kR), .val (.int kS), .val (.int md), .val (.double (FP.i2d iR)), .second, .val (.int sm), .val (.int wh), .val (.int mm), .val (.double (FP.l2d (A.toInt64))), .second, .val (.double (FP.l2d (A.toInt64 + B.toInt64))), .second, .val (.ref o39), .val (.ref o40), .val (.double (own_qw sm (FP.l2d (A.toInt64)) (FP.i2d iR))), .second, .val (.double (own_qw sm (FP.l2d (A.toInt64 + B.toInt64)) (FP.i2d iR))), .second, .val (.double (FP.dmul (FP.i2d sm) (FP.i2d iR))), .second, .unset] [(.int (1 : Int32))]))
              refine Ends.pre (fun tt kt => XS.goto X42.here hx rfl (pc0 := 282) (pc' := 286) rfl (hb hby at_282) (by decide) (by decide) kt) ?_
              show Ends p e below _ (T42.setTop (mkF m 286 #[.val (.int qR), .val (.int iR), .val (.int kR), .val (.int kS), .val (.int md), .val (.double (FP.i2d iR)), .second, .val (.int sm), .val (.int wh), .val (.int mm), .val (.double (FP.l2d (A.toInt64))), .second, .val (.double (FP.l2d (A.toInt64 + B.toInt64))), .second, .val (.ref o39), .val (.ref o40), .val (.double (own_qw sm (FP.l2d (A.toInt64)) (FP.i2d iR))), .second, .val (.double (own_qw sm (FP.l2d (A.toInt64 + B.toInt64)) (FP.i2d iR))), .second, .val (.double (FP.dmul (FP.i2d sm) (FP.i2d iR))), .second, .unset] [(.int (1 : Int32))]))
              refine Ends.pre (fun tt kt => XS.istore X42.here hx rfl (hb hby at_286) rfl (l' := #[.val (.int qR), .val (.int iR), .val (.int kR), .val (.int kS), .val (.int md), .val (.double (FP.i2d iR)), .second, .val (.int sm), .val (.int wh), .val (.int mm), .val (.double (FP.l2d (A.toInt64))), .second, .val (.double (FP.l2d (A.toInt64 + B.toInt64))), .second, .val (.ref o39), .val (.ref o40), .val (.double (own_qw sm (FP.l2d (A.toInt64)) (FP.i2d iR))), .second, .val (.double (own_qw sm (FP.l2d (A.toInt64 + B.toInt64)) (FP.i2d iR))), .second, .val (.double (FP.dmul (FP.i2d sm) (FP.i2d iR))), .second, .val (.int (1 : Int32))]) rfl kt) ?_
              show Ends p e below _ (T42.setTop (mkF m 288 #[.val (.int qR), .val (.int iR), .val (.int kR), .val (.int kS), .val (.int md), .val (.double (FP.i2d iR)), .second, .val (.int sm), .val (.int wh), .val (.int mm), .val (.double (FP.l2d (A.toInt64))), .second, .val (.double (FP.l2d (A.toInt64 + B.toInt64))), .second, .val (.ref o39), .val (.ref o40), .val (.double (own_qw sm (FP.l2d (A.toInt64)) (FP.i2d iR))), .second, .val (.double (own_qw sm (FP.l2d (A.toInt64 + B.toInt64)) (FP.i2d iR))), .second, .val (.double (FP.dmul (FP.i2d sm) (FP.i2d iR))), .second, .val (.int (1 : Int32))] []))
              refine Ends.pre (fun tt kt => XS.dload X42.here hx rfl (hb hby at_288) rfl kt) ?_
              show Ends p e below _ (T42.setTop (mkF m 290 #[.val (.int qR), .val (.int iR), .val (.int kR), .val (.int kS), .val (.int md), .val (.double (FP.i2d iR)), .second, .val (.int sm), .val (.int wh), .val (.int mm), .val (.double (FP.l2d (A.toInt64))), .second, .val (.double (FP.l2d (A.toInt64 + B.toInt64))), .second, .val (.ref o39), .val (.ref o40), .val (.double (own_qw sm (FP.l2d (A.toInt64)) (FP.i2d iR))), .second, .val (.double (own_qw sm (FP.l2d (A.toInt64 + B.toInt64)) (FP.i2d iR))), .second, .val (.double (FP.dmul (FP.i2d sm) (FP.i2d iR))), .second, .val (.int (1 : Int32))] [(.double (FP.i2d iR))]))
              refine Ends.pre (fun tt kt => XS.dconst0 X42.here hx rfl (hb hby at_290) rfl kt) ?_
              show Ends p e below _ (T42.setTop (mkF m 291 #[.val (.int qR), .val (.int iR), .val (.int kR), .val (.int kS), .val (.int md), .val (.double (FP.i2d iR)), .second, .val (.int sm), .val (.int wh), .val (.int mm), .val (.double (FP.l2d (A.toInt64))), .second, .val (.double (FP.l2d (A.toInt64 + B.toInt64))), .second, .val (.ref o39), .val (.ref o40), .val (.double (own_qw sm (FP.l2d (A.toInt64)) (FP.i2d iR))), .second, .val (.double (own_qw sm (FP.l2d (A.toInt64 + B.toInt64)) (FP.i2d iR))), .second, .val (.double (FP.dmul (FP.i2d sm) (FP.i2d iR))), .second, .val (.int (1 : Int32))] [(.double FP.dconst0), (.double (FP.i2d iR))]))
              refine Ends.pre (fun tt kt => XS.dcmpS X42.here hx rfl (v := (cmpValue (FP.dcmp (FP.i2d iR) FP.dconst0) .l)) (hb hby at_291) rfl rfl kt) ?_
              show Ends p e below _ (T42.setTop (mkF m 292 #[.val (.int qR), .val (.int iR), .val (.int kR), .val (.int kS), .val (.int md), .val (.double (FP.i2d iR)), .second, .val (.int sm), .val (.int wh), .val (.int mm), .val (.double (FP.l2d (A.toInt64))), .second, .val (.double (FP.l2d (A.toInt64 + B.toInt64))), .second, .val (.ref o39), .val (.ref o40), .val (.double (own_qw sm (FP.l2d (A.toInt64)) (FP.i2d iR))), .second, .val (.double (own_qw sm (FP.l2d (A.toInt64 + B.toInt64)) (FP.i2d iR))), .second, .val (.double (FP.dmul (FP.i2d sm) (FP.i2d iR))), .second, .val (.int (1 : Int32))] [(.int (cmpValue (FP.dcmp (FP.i2d iR) FP.dconst0) .l))]))
              refine Ends.pre (fun tt kt => XS.ifYes X42.here hx rfl (pc0 := 292) (pc' := 346) rfl (hb hby at_292) rfl ((if0 _ _).trans (tlt l7).1) (by decide) (by decide) kt) ?_
              show Ends p e below _ (T42.setTop (mkF m 346 #[.val (.int qR), .val (.int iR), .val (.int kR), .val (.int kS), .val (.int md), .val (.double (FP.i2d iR)), .second, .val (.int sm), .val (.int wh), .val (.int mm), .val (.double (FP.l2d (A.toInt64))), .second, .val (.double (FP.l2d (A.toInt64 + B.toInt64))), .second, .val (.ref o39), .val (.ref o40), .val (.double (own_qw sm (FP.l2d (A.toInt64)) (FP.i2d iR))), .second, .val (.double (own_qw sm (FP.l2d (A.toInt64 + B.toInt64)) (FP.i2d iR))), .second, .val (.double (FP.dmul (FP.i2d sm) (FP.i2d iR))), .second, .val (.int (1 : Int32))] []))
              refine Ends.pre (fun tt kt => XS.dload X42.here hx rfl (hb hby at_346) rfl kt) ?_
              show Ends p e below _ (T42.setTop (mkF m 348 #[.val (.int qR), .val (.int iR), .val (.int kR), .val (.int kS), .val (.int md), .val (.double (FP.i2d iR)), .second, .val (.int sm), .val (.int wh), .val (.int mm), .val (.double (FP.l2d (A.toInt64))), .second, .val (.double (FP.l2d (A.toInt64 + B.toInt64))), .second, .val (.ref o39), .val (.ref o40), .val (.double (own_qw sm (FP.l2d (A.toInt64)) (FP.i2d iR))), .second, .val (.double (own_qw sm (FP.l2d (A.toInt64 + B.toInt64)) (FP.i2d iR))), .second, .val (.double (FP.dmul (FP.i2d sm) (FP.i2d iR))), .second, .val (.int (1 : Int32))] [(.double (FP.dmul (FP.i2d sm) (FP.i2d iR)))]))
              refine Ends.pre (fun tt kt => XS.dload X42.here hx rfl (hb hby at_348) rfl kt) ?_
              show Ends p e below _ (T42.setTop (mkF m 350 #[.val (.int qR), .val (.int iR), .val (.int kR), .val (.int kS), .val (.int md), .val (.double (FP.i2d iR)), .second, .val (.int sm), .val (.int wh), .val (.int mm), .val (.double (FP.l2d (A.toInt64))), .second, .val (.double (FP.l2d (A.toInt64 + B.toInt64))), .second, .val (.ref o39), .val (.ref o40), .val (.double (own_qw sm (FP.l2d (A.toInt64)) (FP.i2d iR))), .second, .val (.double (own_qw sm (FP.l2d (A.toInt64 + B.toInt64)) (FP.i2d iR))), .second, .val (.double (FP.dmul (FP.i2d sm) (FP.i2d iR))), .second, .val (.int (1 : Int32))] [(.double (own_qw sm (FP.l2d (A.toInt64)) (FP.i2d iR))), (.double (FP.dmul (FP.i2d sm) (FP.i2d iR)))]))
              refine Ends.pre (fun tt kt => XS.dcmpS X42.here hx rfl (v := (cmpValue (FP.dcmp (FP.dmul (FP.i2d sm) (FP.i2d iR)) (own_qw sm (FP.l2d (A.toInt64)) (FP.i2d iR))) .g)) (hb hby at_350) rfl rfl kt) ?_
              show Ends p e below _ (T42.setTop (mkF m 351 #[.val (.int qR), .val (.int iR), .val (.int kR), .val (.int kS), .val (.int md), .val (.double (FP.i2d iR)), .second, .val (.int sm), .val (.int wh), .val (.int mm), .val (.double (FP.l2d (A.toInt64))), .second, .val (.double (FP.l2d (A.toInt64 + B.toInt64))), .second, .val (.ref o39), .val (.ref o40), .val (.double (own_qw sm (FP.l2d (A.toInt64)) (FP.i2d iR))), .second, .val (.double (own_qw sm (FP.l2d (A.toInt64 + B.toInt64)) (FP.i2d iR))), .second, .val (.double (FP.dmul (FP.i2d sm) (FP.i2d iR))), .second, .val (.int (1 : Int32))] [(.int (cmpValue (FP.dcmp (FP.dmul (FP.i2d sm) (FP.i2d iR)) (own_qw sm (FP.l2d (A.toInt64)) (FP.i2d iR))) .g))]))
              refine Ends.pre (fun tt kt => XS.ifNo X42.here hx rfl (hb hby at_351) rfl ((if0 _ _).trans (flt l1.g).2.2.1) kt) ?_
              show Ends p e below _ (T42.setTop (mkF m 354 #[.val (.int qR), .val (.int iR), .val (.int kR), .val (.int kS), .val (.int md), .val (.double (FP.i2d iR)), .second, .val (.int sm), .val (.int wh), .val (.int mm), .val (.double (FP.l2d (A.toInt64))), .second, .val (.double (FP.l2d (A.toInt64 + B.toInt64))), .second, .val (.ref o39), .val (.ref o40), .val (.double (own_qw sm (FP.l2d (A.toInt64)) (FP.i2d iR))), .second, .val (.double (own_qw sm (FP.l2d (A.toInt64 + B.toInt64)) (FP.i2d iR))), .second, .val (.double (FP.dmul (FP.i2d sm) (FP.i2d iR))), .second, .val (.int (1 : Int32))] []))
              refine Ends.pre (fun tt kt => XS.dload X42.here hx rfl (hb hby at_354) rfl kt) ?_
              show Ends p e below _ (T42.setTop (mkF m 356 #[.val (.int qR), .val (.int iR), .val (.int kR), .val (.int kS), .val (.int md), .val (.double (FP.i2d iR)), .second, .val (.int sm), .val (.int wh), .val (.int mm), .val (.double (FP.l2d (A.toInt64))), .second, .val (.double (FP.l2d (A.toInt64 + B.toInt64))), .second, .val (.ref o39), .val (.ref o40), .val (.double (own_qw sm (FP.l2d (A.toInt64)) (FP.i2d iR))), .second, .val (.double (own_qw sm (FP.l2d (A.toInt64 + B.toInt64)) (FP.i2d iR))), .second, .val (.double (FP.dmul (FP.i2d sm) (FP.i2d iR))), .second, .val (.int (1 : Int32))] [(.double (own_qw sm (FP.l2d (A.toInt64)) (FP.i2d iR)))]))
              refine Ends.pre (fun tt kt => XS.dload X42.here hx rfl (hb hby at_356) rfl kt) ?_
              show Ends p e below _ (T42.setTop (mkF m 358 #[.val (.int qR), .val (.int iR), .val (.int kR), .val (.int kS), .val (.int md), .val (.double (FP.i2d iR)), .second, .val (.int sm), .val (.int wh), .val (.int mm), .val (.double (FP.l2d (A.toInt64))), .second, .val (.double (FP.l2d (A.toInt64 + B.toInt64))), .second, .val (.ref o39), .val (.ref o40), .val (.double (own_qw sm (FP.l2d (A.toInt64)) (FP.i2d iR))), .second, .val (.double (own_qw sm (FP.l2d (A.toInt64 + B.toInt64)) (FP.i2d iR))), .second, .val (.double (FP.dmul (FP.i2d sm) (FP.i2d iR))), .second, .val (.int (1 : Int32))] [(.double (FP.i2d iR)), (.double (own_qw sm (FP.l2d (A.toInt64)) (FP.i2d iR)))]))
              refine Ends.pre (fun tt kt => XS.dcmpS X42.here hx rfl (v := (cmpValue (FP.dcmp (own_qw sm (FP.l2d (A.toInt64)) (FP.i2d iR)) (FP.i2d iR)) .g)) (hb hby at_358) rfl rfl kt) ?_
              show Ends p e below _ (T42.setTop (mkF m 359 #[.val (.int qR), .val (.int iR), .val (.int kR), .val (.int kS), .val (.int md), .val (.double (FP.i2d iR)), .second, .val (.int sm), .val (.int wh), .val (.int mm), .val (.double (FP.l2d (A.toInt64))), .second, .val (.double (FP.l2d (A.toInt64 + B.toInt64))), .second, .val (.ref o39), .val (.ref o40), .val (.double (own_qw sm (FP.l2d (A.toInt64)) (FP.i2d iR))), .second, .val (.double (own_qw sm (FP.l2d (A.toInt64 + B.toInt64)) (FP.i2d iR))), .second, .val (.double (FP.dmul (FP.i2d sm) (FP.i2d iR))), .second, .val (.int (1 : Int32))] [(.int (cmpValue (FP.dcmp (own_qw sm (FP.l2d (A.toInt64)) (FP.i2d iR)) (FP.i2d iR)) .g))]))
              refine Ends.pre (fun tt kt => XS.ifNo X42.here hx rfl (hb hby at_359) rfl ((if0 _ _).trans (flt l2.g).2.2.1) kt) ?_
              show Ends p e below _ (T42.setTop (mkF m 362 #[.val (.int qR), .val (.int iR), .val (.int kR), .val (.int kS), .val (.int md), .val (.double (FP.i2d iR)), .second, .val (.int sm), .val (.int wh), .val (.int mm), .val (.double (FP.l2d (A.toInt64))), .second, .val (.double (FP.l2d (A.toInt64 + B.toInt64))), .second, .val (.ref o39), .val (.ref o40), .val (.double (own_qw sm (FP.l2d (A.toInt64)) (FP.i2d iR))), .second, .val (.double (own_qw sm (FP.l2d (A.toInt64 + B.toInt64)) (FP.i2d iR))), .second, .val (.double (FP.dmul (FP.i2d sm) (FP.i2d iR))), .second, .val (.int (1 : Int32))] []))
              refine Ends.pre (fun tt kt => XS.dload X42.here hx rfl (hb hby at_362) rfl kt) ?_
              show Ends p e below _ (T42.setTop (mkF m 364 #[.val (.int qR), .val (.int iR), .val (.int kR), .val (.int kS), .val (.int md), .val (.double (FP.i2d iR)), .second, .val (.int sm), .val (.int wh), .val (.int mm), .val (.double (FP.l2d (A.toInt64))), .second, .val (.double (FP.l2d (A.toInt64 + B.toInt64))), .second, .val (.ref o39), .val (.ref o40), .val (.double (own_qw sm (FP.l2d (A.toInt64)) (FP.i2d iR))), .second, .val (.double (own_qw sm (FP.l2d (A.toInt64 + B.toInt64)) (FP.i2d iR))), .second, .val (.double (FP.dmul (FP.i2d sm) (FP.i2d iR))), .second, .val (.int (1 : Int32))] [(.double (FP.dmul (FP.i2d sm) (FP.i2d iR)))]))
              refine Ends.pre (fun tt kt => XS.dload X42.here hx rfl (hb hby at_364) rfl kt) ?_
              show Ends p e below _ (T42.setTop (mkF m 366 #[.val (.int qR), .val (.int iR), .val (.int kR), .val (.int kS), .val (.int md), .val (.double (FP.i2d iR)), .second, .val (.int sm), .val (.int wh), .val (.int mm), .val (.double (FP.l2d (A.toInt64))), .second, .val (.double (FP.l2d (A.toInt64 + B.toInt64))), .second, .val (.ref o39), .val (.ref o40), .val (.double (own_qw sm (FP.l2d (A.toInt64)) (FP.i2d iR))), .second, .val (.double (own_qw sm (FP.l2d (A.toInt64 + B.toInt64)) (FP.i2d iR))), .second, .val (.double (FP.dmul (FP.i2d sm) (FP.i2d iR))), .second, .val (.int (1 : Int32))] [(.double (own_qw sm (FP.l2d (A.toInt64 + B.toInt64)) (FP.i2d iR))), (.double (FP.dmul (FP.i2d sm) (FP.i2d iR)))]))
              refine Ends.pre (fun tt kt => XS.dcmpS X42.here hx rfl (v := (cmpValue (FP.dcmp (FP.dmul (FP.i2d sm) (FP.i2d iR)) (own_qw sm (FP.l2d (A.toInt64 + B.toInt64)) (FP.i2d iR))) .g)) (hb hby at_366) rfl rfl kt) ?_
              show Ends p e below _ (T42.setTop (mkF m 367 #[.val (.int qR), .val (.int iR), .val (.int kR), .val (.int kS), .val (.int md), .val (.double (FP.i2d iR)), .second, .val (.int sm), .val (.int wh), .val (.int mm), .val (.double (FP.l2d (A.toInt64))), .second, .val (.double (FP.l2d (A.toInt64 + B.toInt64))), .second, .val (.ref o39), .val (.ref o40), .val (.double (own_qw sm (FP.l2d (A.toInt64)) (FP.i2d iR))), .second, .val (.double (own_qw sm (FP.l2d (A.toInt64 + B.toInt64)) (FP.i2d iR))), .second, .val (.double (FP.dmul (FP.i2d sm) (FP.i2d iR))), .second, .val (.int (1 : Int32))] [(.int (cmpValue (FP.dcmp (FP.dmul (FP.i2d sm) (FP.i2d iR)) (own_qw sm (FP.l2d (A.toInt64 + B.toInt64)) (FP.i2d iR))) .g))]))
              refine Ends.pre (fun tt kt => XS.ifNo X42.here hx rfl (hb hby at_367) rfl ((if0 _ _).trans (flt l3.g).2.2.1) kt) ?_
              show Ends p e below _ (T42.setTop (mkF m 370 #[.val (.int qR), .val (.int iR), .val (.int kR), .val (.int kS), .val (.int md), .val (.double (FP.i2d iR)), .second, .val (.int sm), .val (.int wh), .val (.int mm), .val (.double (FP.l2d (A.toInt64))), .second, .val (.double (FP.l2d (A.toInt64 + B.toInt64))), .second, .val (.ref o39), .val (.ref o40), .val (.double (own_qw sm (FP.l2d (A.toInt64)) (FP.i2d iR))), .second, .val (.double (own_qw sm (FP.l2d (A.toInt64 + B.toInt64)) (FP.i2d iR))), .second, .val (.double (FP.dmul (FP.i2d sm) (FP.i2d iR))), .second, .val (.int (1 : Int32))] []))
              refine Ends.pre (fun tt kt => XS.dload X42.here hx rfl (hb hby at_370) rfl kt) ?_
              show Ends p e below _ (T42.setTop (mkF m 372 #[.val (.int qR), .val (.int iR), .val (.int kR), .val (.int kS), .val (.int md), .val (.double (FP.i2d iR)), .second, .val (.int sm), .val (.int wh), .val (.int mm), .val (.double (FP.l2d (A.toInt64))), .second, .val (.double (FP.l2d (A.toInt64 + B.toInt64))), .second, .val (.ref o39), .val (.ref o40), .val (.double (own_qw sm (FP.l2d (A.toInt64)) (FP.i2d iR))), .second, .val (.double (own_qw sm (FP.l2d (A.toInt64 + B.toInt64)) (FP.i2d iR))), .second, .val (.double (FP.dmul (FP.i2d sm) (FP.i2d iR))), .second, .val (.int (1 : Int32))] [(.double (own_qw sm (FP.l2d (A.toInt64 + B.toInt64)) (FP.i2d iR)))]))
              refine Ends.pre (fun tt kt => XS.dload X42.here hx rfl (hb hby at_372) rfl kt) ?_
              show Ends p e below _ (T42.setTop (mkF m 374 #[.val (.int qR), .val (.int iR), .val (.int kR), .val (.int kS), .val (.int md), .val (.double (FP.i2d iR)), .second, .val (.int sm), .val (.int wh), .val (.int mm), .val (.double (FP.l2d (A.toInt64))), .second, .val (.double (FP.l2d (A.toInt64 + B.toInt64))), .second, .val (.ref o39), .val (.ref o40), .val (.double (own_qw sm (FP.l2d (A.toInt64)) (FP.i2d iR))), .second, .val (.double (own_qw sm (FP.l2d (A.toInt64 + B.toInt64)) (FP.i2d iR))), .second, .val (.double (FP.dmul (FP.i2d sm) (FP.i2d iR))), .second, .val (.int (1 : Int32))] [(.double (FP.i2d iR)), (.double (own_qw sm (FP.l2d (A.toInt64 + B.toInt64)) (FP.i2d iR)))]))
              refine Ends.pre (fun tt kt => XS.dcmpS X42.here hx rfl (v := (cmpValue (FP.dcmp (own_qw sm (FP.l2d (A.toInt64 + B.toInt64)) (FP.i2d iR)) (FP.i2d iR)) .g)) (hb hby at_374) rfl rfl kt) ?_
              show Ends p e below _ (T42.setTop (mkF m 375 #[.val (.int qR), .val (.int iR), .val (.int kR), .val (.int kS), .val (.int md), .val (.double (FP.i2d iR)), .second, .val (.int sm), .val (.int wh), .val (.int mm), .val (.double (FP.l2d (A.toInt64))), .second, .val (.double (FP.l2d (A.toInt64 + B.toInt64))), .second, .val (.ref o39), .val (.ref o40), .val (.double (own_qw sm (FP.l2d (A.toInt64)) (FP.i2d iR))), .second, .val (.double (own_qw sm (FP.l2d (A.toInt64 + B.toInt64)) (FP.i2d iR))), .second, .val (.double (FP.dmul (FP.i2d sm) (FP.i2d iR))), .second, .val (.int (1 : Int32))] [(.int (cmpValue (FP.dcmp (own_qw sm (FP.l2d (A.toInt64 + B.toInt64)) (FP.i2d iR)) (FP.i2d iR)) .g))]))
              refine Ends.pre (fun tt kt => XS.ifNo X42.here hx rfl (hb hby at_375) rfl ((if0 _ _).trans (flt l4.g).2.2.1) kt) ?_
              show Ends p e below _ (T42.setTop (mkF m 378 #[.val (.int qR), .val (.int iR), .val (.int kR), .val (.int kS), .val (.int md), .val (.double (FP.i2d iR)), .second, .val (.int sm), .val (.int wh), .val (.int mm), .val (.double (FP.l2d (A.toInt64))), .second, .val (.double (FP.l2d (A.toInt64 + B.toInt64))), .second, .val (.ref o39), .val (.ref o40), .val (.double (own_qw sm (FP.l2d (A.toInt64)) (FP.i2d iR))), .second, .val (.double (own_qw sm (FP.l2d (A.toInt64 + B.toInt64)) (FP.i2d iR))), .second, .val (.double (FP.dmul (FP.i2d sm) (FP.i2d iR))), .second, .val (.int (1 : Int32))] []))
              refine Ends.pre (fun tt kt => XS.dload X42.here hx rfl (hb hby at_378) rfl kt) ?_
              show Ends p e below _ (T42.setTop (mkF m 380 #[.val (.int qR), .val (.int iR), .val (.int kR), .val (.int kS), .val (.int md), .val (.double (FP.i2d iR)), .second, .val (.int sm), .val (.int wh), .val (.int mm), .val (.double (FP.l2d (A.toInt64))), .second, .val (.double (FP.l2d (A.toInt64 + B.toInt64))), .second, .val (.ref o39), .val (.ref o40), .val (.double (own_qw sm (FP.l2d (A.toInt64)) (FP.i2d iR))), .second, .val (.double (own_qw sm (FP.l2d (A.toInt64 + B.toInt64)) (FP.i2d iR))), .second, .val (.double (FP.dmul (FP.i2d sm) (FP.i2d iR))), .second, .val (.int (1 : Int32))] [(.double (own_qw sm (FP.l2d (A.toInt64 + B.toInt64)) (FP.i2d iR)))]))
              refine Ends.pre (fun tt kt => XS.dload X42.here hx rfl (hb hby at_380) rfl kt) ?_
              show Ends p e below _ (T42.setTop (mkF m 382 #[.val (.int qR), .val (.int iR), .val (.int kR), .val (.int kS), .val (.int md), .val (.double (FP.i2d iR)), .second, .val (.int sm), .val (.int wh), .val (.int mm), .val (.double (FP.l2d (A.toInt64))), .second, .val (.double (FP.l2d (A.toInt64 + B.toInt64))), .second, .val (.ref o39), .val (.ref o40), .val (.double (own_qw sm (FP.l2d (A.toInt64)) (FP.i2d iR))), .second, .val (.double (own_qw sm (FP.l2d (A.toInt64 + B.toInt64)) (FP.i2d iR))), .second, .val (.double (FP.dmul (FP.i2d sm) (FP.i2d iR))), .second, .val (.int (1 : Int32))] [(.double (own_qw sm (FP.l2d (A.toInt64)) (FP.i2d iR))), (.double (own_qw sm (FP.l2d (A.toInt64 + B.toInt64)) (FP.i2d iR)))]))
              refine Ends.pre (fun tt kt => XS.dcmpS X42.here hx rfl (v := (cmpValue (FP.dcmp (own_qw sm (FP.l2d (A.toInt64 + B.toInt64)) (FP.i2d iR)) (own_qw sm (FP.l2d (A.toInt64)) (FP.i2d iR))) .g)) (hb hby at_382) rfl rfl kt) ?_
              show Ends p e below _ (T42.setTop (mkF m 383 #[.val (.int qR), .val (.int iR), .val (.int kR), .val (.int kS), .val (.int md), .val (.double (FP.i2d iR)), .second, .val (.int sm), .val (.int wh), .val (.int mm), .val (.double (FP.l2d (A.toInt64))), .second, .val (.double (FP.l2d (A.toInt64 + B.toInt64))), .second, .val (.ref o39), .val (.ref o40), .val (.double (own_qw sm (FP.l2d (A.toInt64)) (FP.i2d iR))), .second, .val (.double (own_qw sm (FP.l2d (A.toInt64 + B.toInt64)) (FP.i2d iR))), .second, .val (.double (FP.dmul (FP.i2d sm) (FP.i2d iR))), .second, .val (.int (1 : Int32))] [(.int (cmpValue (FP.dcmp (own_qw sm (FP.l2d (A.toInt64 + B.toInt64)) (FP.i2d iR)) (own_qw sm (FP.l2d (A.toInt64)) (FP.i2d iR))) .g))]))
              refine Ends.pre (fun tt kt => XS.ifNo X42.here hx rfl (hb hby at_383) rfl ((if0 _ _).trans (flt l5.g).2.2.1) kt) ?_
              show Ends p e below _ (T42.setTop (mkF m 386 #[.val (.int qR), .val (.int iR), .val (.int kR), .val (.int kS), .val (.int md), .val (.double (FP.i2d iR)), .second, .val (.int sm), .val (.int wh), .val (.int mm), .val (.double (FP.l2d (A.toInt64))), .second, .val (.double (FP.l2d (A.toInt64 + B.toInt64))), .second, .val (.ref o39), .val (.ref o40), .val (.double (own_qw sm (FP.l2d (A.toInt64)) (FP.i2d iR))), .second, .val (.double (own_qw sm (FP.l2d (A.toInt64 + B.toInt64)) (FP.i2d iR))), .second, .val (.double (FP.dmul (FP.i2d sm) (FP.i2d iR))), .second, .val (.int (1 : Int32))] []))
              refine Ends.pre (fun tt kt => XS.iload X42.here hx rfl (hb hby at_386) rfl kt) ?_
              show Ends p e below _ (T42.setTop (mkF m 388 #[.val (.int qR), .val (.int iR), .val (.int kR), .val (.int kS), .val (.int md), .val (.double (FP.i2d iR)), .second, .val (.int sm), .val (.int wh), .val (.int mm), .val (.double (FP.l2d (A.toInt64))), .second, .val (.double (FP.l2d (A.toInt64 + B.toInt64))), .second, .val (.ref o39), .val (.ref o40), .val (.double (own_qw sm (FP.l2d (A.toInt64)) (FP.i2d iR))), .second, .val (.double (own_qw sm (FP.l2d (A.toInt64 + B.toInt64)) (FP.i2d iR))), .second, .val (.double (FP.dmul (FP.i2d sm) (FP.i2d iR))), .second, .val (.int (1 : Int32))] [(.int (1 : Int32))]))
              refine Ends.pre (fun tt kt => XS.ifNo X42.here hx rfl (hb hby at_388) rfl ((if0 _ _).trans (feq (by decide)).1) kt) ?_
              show Ends p e below _ (T42.setTop (mkF m 391 #[.val (.int qR), .val (.int iR), .val (.int kR), .val (.int kS), .val (.int md), .val (.double (FP.i2d iR)), .second, .val (.int sm), .val (.int wh), .val (.int mm), .val (.double (FP.l2d (A.toInt64))), .second, .val (.double (FP.l2d (A.toInt64 + B.toInt64))), .second, .val (.ref o39), .val (.ref o40), .val (.double (own_qw sm (FP.l2d (A.toInt64)) (FP.i2d iR))), .second, .val (.double (own_qw sm (FP.l2d (A.toInt64 + B.toInt64)) (FP.i2d iR))), .second, .val (.double (FP.dmul (FP.i2d sm) (FP.i2d iR))), .second, .val (.int (1 : Int32))] []))
              refine Ends.pre (fun tt kt => XS.iconst X42.here hx rfl (hb hby at_391) kt) ?_
              show Ends p e below _ (T42.setTop (mkF m 392 #[.val (.int qR), .val (.int iR), .val (.int kR), .val (.int kS), .val (.int md), .val (.double (FP.i2d iR)), .second, .val (.int sm), .val (.int wh), .val (.int mm), .val (.double (FP.l2d (A.toInt64))), .second, .val (.double (FP.l2d (A.toInt64 + B.toInt64))), .second, .val (.ref o39), .val (.ref o40), .val (.double (own_qw sm (FP.l2d (A.toInt64)) (FP.i2d iR))), .second, .val (.double (own_qw sm (FP.l2d (A.toInt64 + B.toInt64)) (FP.i2d iR))), .second, .val (.double (FP.dmul (FP.i2d sm) (FP.i2d iR))), .second, .val (.int (1 : Int32))] [(.int (1 : Int32))]))
              refine Ends.pre (fun tt kt => XS.goto X42.here hx rfl (pc0 := 392) (pc' := 396) rfl (hb hby at_392) (by decide) (by decide) kt) ?_
              show Ends p e below _ (T42.setTop (mkF m 396 #[.val (.int qR), .val (.int iR), .val (.int kR), .val (.int kS), .val (.int md), .val (.double (FP.i2d iR)), .second, .val (.int sm), .val (.int wh), .val (.int mm), .val (.double (FP.l2d (A.toInt64))), .second, .val (.double (FP.l2d (A.toInt64 + B.toInt64))), .second, .val (.ref o39), .val (.ref o40), .val (.double (own_qw sm (FP.l2d (A.toInt64)) (FP.i2d iR))), .second, .val (.double (own_qw sm (FP.l2d (A.toInt64 + B.toInt64)) (FP.i2d iR))), .second, .val (.double (FP.dmul (FP.i2d sm) (FP.i2d iR))), .second, .val (.int (1 : Int32))] [(.int (1 : Int32))]))
              obtain ⟨fs, hr, hrun, hended, hW, hsame⟩ := X42.leave (v := some (.int (1 : Int32))) (fun h => by rw [Bd.returns] at h; cases h)
              refine ⟨_, _, retN X42 hx (t := .boolean) Bd.returns (by simp) (hb hby at_396) hr, hrun, hended, _, _, rfl, ?_, ⟨_, rfl⟩, hW, hsame.mono (by decide) (by decide)⟩
              show Q0 Z _ _ _ _ _ _ _ _ _ _ _ _ h0 n0 _ T42.heap _
              rw [e42]
              exact ⟨rfl, N42⟩
            ·
              obtain ⟨l1, l2, l3, l4, l5, l6, l7⟩ := hpos hI
              refine Ends.pre (fun tt kt => XS.iconst X42.here hx rfl (hb hby at_281) kt) ?_
              show Ends p e below _ (T42.setTop (mkF m 282 #[.val (.int qR), .val (.int iR), .val (.int kR), .val (.int kS), .val (.int md), .val (.double (FP.i2d iR)), .second, .val (.int sm), .val (.int wh), .val (.int mm), .val (.double (FP.l2d (A.toInt64))), .second, .val (.double (FP.l2d (A.toInt64 + B.toInt64))), .second, .val (.ref o39), .val (.ref o40), .val (.double (own_qw sm (FP.l2d (A.toInt64)) (FP.i2d iR))), .second, .val (.double (own_qw sm (FP.l2d (A.toInt64 + B.toInt64)) (FP.i2d iR))), .second, .val (.double (FP.dmul (FP.i2d sm) (FP.i2d iR))), .second, .unset] [(.int (1 : Int32))]))
              refine Ends.pre (fun tt kt => XS.goto X42.here hx rfl (pc0 := 282) (pc' := 286) rfl (hb hby at_282) (by decide) (by decide) kt) ?_
              show Ends p e below _ (T42.setTop (mkF m 286 #[.val (.int qR), .val (.int iR), .val (.int kR), .val (.int kS), .val (.int md), .val (.double (FP.i2d iR)), .second, .val (.int sm), .val (.int wh), .val (.int mm), .val (.double (FP.l2d (A.toInt64))), .second, .val (.double (FP.l2d (A.toInt64 + B.toInt64))), .second, .val (.ref o39), .val (.ref o40), .val (.double (own_qw sm (FP.l2d (A.toInt64)) (FP.i2d iR))), .second, .val (.double (own_qw sm (FP.l2d (A.toInt64 + B.toInt64)) (FP.i2d iR))), .second, .val (.double (FP.dmul (FP.i2d sm) (FP.i2d iR))), .second, .unset] [(.int (1 : Int32))]))
              refine Ends.pre (fun tt kt => XS.istore X42.here hx rfl (hb hby at_286) rfl (l' := #[.val (.int qR), .val (.int iR), .val (.int kR), .val (.int kS), .val (.int md), .val (.double (FP.i2d iR)), .second, .val (.int sm), .val (.int wh), .val (.int mm), .val (.double (FP.l2d (A.toInt64))), .second, .val (.double (FP.l2d (A.toInt64 + B.toInt64))), .second, .val (.ref o39), .val (.ref o40), .val (.double (own_qw sm (FP.l2d (A.toInt64)) (FP.i2d iR))), .second, .val (.double (own_qw sm (FP.l2d (A.toInt64 + B.toInt64)) (FP.i2d iR))), .second, .val (.double (FP.dmul (FP.i2d sm) (FP.i2d iR))), .second, .val (.int (1 : Int32))]) rfl kt) ?_
              show Ends p e below _ (T42.setTop (mkF m 288 #[.val (.int qR), .val (.int iR), .val (.int kR), .val (.int kS), .val (.int md), .val (.double (FP.i2d iR)), .second, .val (.int sm), .val (.int wh), .val (.int mm), .val (.double (FP.l2d (A.toInt64))), .second, .val (.double (FP.l2d (A.toInt64 + B.toInt64))), .second, .val (.ref o39), .val (.ref o40), .val (.double (own_qw sm (FP.l2d (A.toInt64)) (FP.i2d iR))), .second, .val (.double (own_qw sm (FP.l2d (A.toInt64 + B.toInt64)) (FP.i2d iR))), .second, .val (.double (FP.dmul (FP.i2d sm) (FP.i2d iR))), .second, .val (.int (1 : Int32))] []))
              refine Ends.pre (fun tt kt => XS.dload X42.here hx rfl (hb hby at_288) rfl kt) ?_
              show Ends p e below _ (T42.setTop (mkF m 290 #[.val (.int qR), .val (.int iR), .val (.int kR), .val (.int kS), .val (.int md), .val (.double (FP.i2d iR)), .second, .val (.int sm), .val (.int wh), .val (.int mm), .val (.double (FP.l2d (A.toInt64))), .second, .val (.double (FP.l2d (A.toInt64 + B.toInt64))), .second, .val (.ref o39), .val (.ref o40), .val (.double (own_qw sm (FP.l2d (A.toInt64)) (FP.i2d iR))), .second, .val (.double (own_qw sm (FP.l2d (A.toInt64 + B.toInt64)) (FP.i2d iR))), .second, .val (.double (FP.dmul (FP.i2d sm) (FP.i2d iR))), .second, .val (.int (1 : Int32))] [(.double (FP.i2d iR))]))
              refine Ends.pre (fun tt kt => XS.dconst0 X42.here hx rfl (hb hby at_290) rfl kt) ?_
              show Ends p e below _ (T42.setTop (mkF m 291 #[.val (.int qR), .val (.int iR), .val (.int kR), .val (.int kS), .val (.int md), .val (.double (FP.i2d iR)), .second, .val (.int sm), .val (.int wh), .val (.int mm), .val (.double (FP.l2d (A.toInt64))), .second, .val (.double (FP.l2d (A.toInt64 + B.toInt64))), .second, .val (.ref o39), .val (.ref o40), .val (.double (own_qw sm (FP.l2d (A.toInt64)) (FP.i2d iR))), .second, .val (.double (own_qw sm (FP.l2d (A.toInt64 + B.toInt64)) (FP.i2d iR))), .second, .val (.double (FP.dmul (FP.i2d sm) (FP.i2d iR))), .second, .val (.int (1 : Int32))] [(.double FP.dconst0), (.double (FP.i2d iR))]))
              refine Ends.pre (fun tt kt => XS.dcmpS X42.here hx rfl (v := (cmpValue (FP.dcmp (FP.i2d iR) FP.dconst0) .l)) (hb hby at_291) rfl rfl kt) ?_
              show Ends p e below _ (T42.setTop (mkF m 292 #[.val (.int qR), .val (.int iR), .val (.int kR), .val (.int kS), .val (.int md), .val (.double (FP.i2d iR)), .second, .val (.int sm), .val (.int wh), .val (.int mm), .val (.double (FP.l2d (A.toInt64))), .second, .val (.double (FP.l2d (A.toInt64 + B.toInt64))), .second, .val (.ref o39), .val (.ref o40), .val (.double (own_qw sm (FP.l2d (A.toInt64)) (FP.i2d iR))), .second, .val (.double (own_qw sm (FP.l2d (A.toInt64 + B.toInt64)) (FP.i2d iR))), .second, .val (.double (FP.dmul (FP.i2d sm) (FP.i2d iR))), .second, .val (.int (1 : Int32))] [(.int (cmpValue (FP.dcmp (FP.i2d iR) FP.dconst0) .l))]))
              refine Ends.pre (fun tt kt => XS.ifNo X42.here hx rfl (hb hby at_292) rfl ((if0 _ _).trans (flt l7).1) kt) ?_
              show Ends p e below _ (T42.setTop (mkF m 295 #[.val (.int qR), .val (.int iR), .val (.int kR), .val (.int kS), .val (.int md), .val (.double (FP.i2d iR)), .second, .val (.int sm), .val (.int wh), .val (.int mm), .val (.double (FP.l2d (A.toInt64))), .second, .val (.double (FP.l2d (A.toInt64 + B.toInt64))), .second, .val (.ref o39), .val (.ref o40), .val (.double (own_qw sm (FP.l2d (A.toInt64)) (FP.i2d iR))), .second, .val (.double (own_qw sm (FP.l2d (A.toInt64 + B.toInt64)) (FP.i2d iR))), .second, .val (.double (FP.dmul (FP.i2d sm) (FP.i2d iR))), .second, .val (.int (1 : Int32))] []))
              refine Ends.pre (fun tt kt => XS.dload X42.here hx rfl (hb hby at_295) rfl kt) ?_
              show Ends p e below _ (T42.setTop (mkF m 297 #[.val (.int qR), .val (.int iR), .val (.int kR), .val (.int kS), .val (.int md), .val (.double (FP.i2d iR)), .second, .val (.int sm), .val (.int wh), .val (.int mm), .val (.double (FP.l2d (A.toInt64))), .second, .val (.double (FP.l2d (A.toInt64 + B.toInt64))), .second, .val (.ref o39), .val (.ref o40), .val (.double (own_qw sm (FP.l2d (A.toInt64)) (FP.i2d iR))), .second, .val (.double (own_qw sm (FP.l2d (A.toInt64 + B.toInt64)) (FP.i2d iR))), .second, .val (.double (FP.dmul (FP.i2d sm) (FP.i2d iR))), .second, .val (.int (1 : Int32))] [(.double (FP.i2d iR))]))
              refine Ends.pre (fun tt kt => XS.dload X42.here hx rfl (hb hby at_297) rfl kt) ?_
              show Ends p e below _ (T42.setTop (mkF m 299 #[.val (.int qR), .val (.int iR), .val (.int kR), .val (.int kS), .val (.int md), .val (.double (FP.i2d iR)), .second, .val (.int sm), .val (.int wh), .val (.int mm), .val (.double (FP.l2d (A.toInt64))), .second, .val (.double (FP.l2d (A.toInt64 + B.toInt64))), .second, .val (.ref o39), .val (.ref o40), .val (.double (own_qw sm (FP.l2d (A.toInt64)) (FP.i2d iR))), .second, .val (.double (own_qw sm (FP.l2d (A.toInt64 + B.toInt64)) (FP.i2d iR))), .second, .val (.double (FP.dmul (FP.i2d sm) (FP.i2d iR))), .second, .val (.int (1 : Int32))] [(.double (own_qw sm (FP.l2d (A.toInt64)) (FP.i2d iR))), (.double (FP.i2d iR))]))
              refine Ends.pre (fun tt kt => XS.dcmpS X42.here hx rfl (v := (cmpValue (FP.dcmp (FP.i2d iR) (own_qw sm (FP.l2d (A.toInt64)) (FP.i2d iR))) .g)) (hb hby at_299) rfl rfl kt) ?_
              show Ends p e below _ (T42.setTop (mkF m 300 #[.val (.int qR), .val (.int iR), .val (.int kR), .val (.int kS), .val (.int md), .val (.double (FP.i2d iR)), .second, .val (.int sm), .val (.int wh), .val (.int mm), .val (.double (FP.l2d (A.toInt64))), .second, .val (.double (FP.l2d (A.toInt64 + B.toInt64))), .second, .val (.ref o39), .val (.ref o40), .val (.double (own_qw sm (FP.l2d (A.toInt64)) (FP.i2d iR))), .second, .val (.double (own_qw sm (FP.l2d (A.toInt64 + B.toInt64)) (FP.i2d iR))), .second, .val (.double (FP.dmul (FP.i2d sm) (FP.i2d iR))), .second, .val (.int (1 : Int32))] [(.int (cmpValue (FP.dcmp (FP.i2d iR) (own_qw sm (FP.l2d (A.toInt64)) (FP.i2d iR))) .g))]))
              refine Ends.pre (fun tt kt => XS.ifNo X42.here hx rfl (hb hby at_300) rfl ((if0 _ _).trans (flt l1.g).2.2.1) kt) ?_
              show Ends p e below _ (T42.setTop (mkF m 303 #[.val (.int qR), .val (.int iR), .val (.int kR), .val (.int kS), .val (.int md), .val (.double (FP.i2d iR)), .second, .val (.int sm), .val (.int wh), .val (.int mm), .val (.double (FP.l2d (A.toInt64))), .second, .val (.double (FP.l2d (A.toInt64 + B.toInt64))), .second, .val (.ref o39), .val (.ref o40), .val (.double (own_qw sm (FP.l2d (A.toInt64)) (FP.i2d iR))), .second, .val (.double (own_qw sm (FP.l2d (A.toInt64 + B.toInt64)) (FP.i2d iR))), .second, .val (.double (FP.dmul (FP.i2d sm) (FP.i2d iR))), .second, .val (.int (1 : Int32))] []))
              refine Ends.pre (fun tt kt => XS.dload X42.here hx rfl (hb hby at_303) rfl kt) ?_
              show Ends p e below _ (T42.setTop (mkF m 305 #[.val (.int qR), .val (.int iR), .val (.int kR), .val (.int kS), .val (.int md), .val (.double (FP.i2d iR)), .second, .val (.int sm), .val (.int wh), .val (.int mm), .val (.double (FP.l2d (A.toInt64))), .second, .val (.double (FP.l2d (A.toInt64 + B.toInt64))), .second, .val (.ref o39), .val (.ref o40), .val (.double (own_qw sm (FP.l2d (A.toInt64)) (FP.i2d iR))), .second, .val (.double (own_qw sm (FP.l2d (A.toInt64 + B.toInt64)) (FP.i2d iR))), .second, .val (.double (FP.dmul (FP.i2d sm) (FP.i2d iR))), .second, .val (.int (1 : Int32))] [(.double (own_qw sm (FP.l2d (A.toInt64)) (FP.i2d iR)))]))
              refine Ends.pre (fun tt kt => XS.dload X42.here hx rfl (hb hby at_305) rfl kt) ?_
              show Ends p e below _ (T42.setTop (mkF m 307 #[.val (.int qR), .val (.int iR), .val (.int kR), .val (.int kS), .val (.int md), .val (.double (FP.i2d iR)), .second, .val (.int sm), .val (.int wh), .val (.int mm), .val (.double (FP.l2d (A.toInt64))), .second, .val (.double (FP.l2d (A.toInt64 + B.toInt64))), .second, .val (.ref o39), .val (.ref o40), .val (.double (own_qw sm (FP.l2d (A.toInt64)) (FP.i2d iR))), .second, .val (.double (own_qw sm (FP.l2d (A.toInt64 + B.toInt64)) (FP.i2d iR))), .second, .val (.double (FP.dmul (FP.i2d sm) (FP.i2d iR))), .second, .val (.int (1 : Int32))] [(.double (FP.dmul (FP.i2d sm) (FP.i2d iR))), (.double (own_qw sm (FP.l2d (A.toInt64)) (FP.i2d iR)))]))
              refine Ends.pre (fun tt kt => XS.dcmpS X42.here hx rfl (v := (cmpValue (FP.dcmp (own_qw sm (FP.l2d (A.toInt64)) (FP.i2d iR)) (FP.dmul (FP.i2d sm) (FP.i2d iR))) .g)) (hb hby at_307) rfl rfl kt) ?_
              show Ends p e below _ (T42.setTop (mkF m 308 #[.val (.int qR), .val (.int iR), .val (.int kR), .val (.int kS), .val (.int md), .val (.double (FP.i2d iR)), .second, .val (.int sm), .val (.int wh), .val (.int mm), .val (.double (FP.l2d (A.toInt64))), .second, .val (.double (FP.l2d (A.toInt64 + B.toInt64))), .second, .val (.ref o39), .val (.ref o40), .val (.double (own_qw sm (FP.l2d (A.toInt64)) (FP.i2d iR))), .second, .val (.double (own_qw sm (FP.l2d (A.toInt64 + B.toInt64)) (FP.i2d iR))), .second, .val (.double (FP.dmul (FP.i2d sm) (FP.i2d iR))), .second, .val (.int (1 : Int32))] [(.int (cmpValue (FP.dcmp (own_qw sm (FP.l2d (A.toInt64)) (FP.i2d iR)) (FP.dmul (FP.i2d sm) (FP.i2d iR))) .g))]))
              refine Ends.pre (fun tt kt => XS.ifNo X42.here hx rfl (hb hby at_308) rfl ((if0 _ _).trans (flt l2.g).2.2.1) kt) ?_
              show Ends p e below _ (T42.setTop (mkF m 311 #[.val (.int qR), .val (.int iR), .val (.int kR), .val (.int kS), .val (.int md), .val (.double (FP.i2d iR)), .second, .val (.int sm), .val (.int wh), .val (.int mm), .val (.double (FP.l2d (A.toInt64))), .second, .val (.double (FP.l2d (A.toInt64 + B.toInt64))), .second, .val (.ref o39), .val (.ref o40), .val (.double (own_qw sm (FP.l2d (A.toInt64)) (FP.i2d iR))), .second, .val (.double (own_qw sm (FP.l2d (A.toInt64 + B.toInt64)) (FP.i2d iR))), .second, .val (.double (FP.dmul (FP.i2d sm) (FP.i2d iR))), .second, .val (.int (1 : Int32))] []))
              refine Ends.pre (fun tt kt => XS.dload X42.here hx rfl (hb hby at_311) rfl kt) ?_
              show Ends p e below _ (T42.setTop (mkF m 313 #[.val (.int qR), .val (.int iR), .val (.int kR), .val (.int kS), .val (.int md), .val (.double (FP.i2d iR)), .second, .val (.int sm), .val (.int wh), .val (.int mm), .val (.double (FP.l2d (A.toInt64))), .second, .val (.double (FP.l2d (A.toInt64 + B.toInt64))), .second, .val (.ref o39), .val (.ref o40), .val (.double (own_qw sm (FP.l2d (A.toInt64)) (FP.i2d iR))), .second, .val (.double (own_qw sm (FP.l2d (A.toInt64 + B.toInt64)) (FP.i2d iR))), .second, .val (.double (FP.dmul (FP.i2d sm) (FP.i2d iR))), .second, .val (.int (1 : Int32))] [(.double (FP.i2d iR))]))
              refine Ends.pre (fun tt kt => XS.dload X42.here hx rfl (hb hby at_313) rfl kt) ?_
              show Ends p e below _ (T42.setTop (mkF m 315 #[.val (.int qR), .val (.int iR), .val (.int kR), .val (.int kS), .val (.int md), .val (.double (FP.i2d iR)), .second, .val (.int sm), .val (.int wh), .val (.int mm), .val (.double (FP.l2d (A.toInt64))), .second, .val (.double (FP.l2d (A.toInt64 + B.toInt64))), .second, .val (.ref o39), .val (.ref o40), .val (.double (own_qw sm (FP.l2d (A.toInt64)) (FP.i2d iR))), .second, .val (.double (own_qw sm (FP.l2d (A.toInt64 + B.toInt64)) (FP.i2d iR))), .second, .val (.double (FP.dmul (FP.i2d sm) (FP.i2d iR))), .second, .val (.int (1 : Int32))] [(.double (own_qw sm (FP.l2d (A.toInt64 + B.toInt64)) (FP.i2d iR))), (.double (FP.i2d iR))]))
              refine Ends.pre (fun tt kt => XS.dcmpS X42.here hx rfl (v := (cmpValue (FP.dcmp (FP.i2d iR) (own_qw sm (FP.l2d (A.toInt64 + B.toInt64)) (FP.i2d iR))) .g)) (hb hby at_315) rfl rfl kt) ?_
              show Ends p e below _ (T42.setTop (mkF m 316 #[.val (.int qR), .val (.int iR), .val (.int kR), .val (.int kS), .val (.int md), .val (.double (FP.i2d iR)), .second, .val (.int sm), .val (.int wh), .val (.int mm), .val (.double (FP.l2d (A.toInt64))), .second, .val (.double (FP.l2d (A.toInt64 + B.toInt64))), .second, .val (.ref o39), .val (.ref o40), .val (.double (own_qw sm (FP.l2d (A.toInt64)) (FP.i2d iR))), .second, .val (.double (own_qw sm (FP.l2d (A.toInt64 + B.toInt64)) (FP.i2d iR))), .second, .val (.double (FP.dmul (FP.i2d sm) (FP.i2d iR))), .second, .val (.int (1 : Int32))] [(.int (cmpValue (FP.dcmp (FP.i2d iR) (own_qw sm (FP.l2d (A.toInt64 + B.toInt64)) (FP.i2d iR))) .g))]))
              refine Ends.pre (fun tt kt => XS.ifNo X42.here hx rfl (hb hby at_316) rfl ((if0 _ _).trans (flt l3.g).2.2.1) kt) ?_
              show Ends p e below _ (T42.setTop (mkF m 319 #[.val (.int qR), .val (.int iR), .val (.int kR), .val (.int kS), .val (.int md), .val (.double (FP.i2d iR)), .second, .val (.int sm), .val (.int wh), .val (.int mm), .val (.double (FP.l2d (A.toInt64))), .second, .val (.double (FP.l2d (A.toInt64 + B.toInt64))), .second, .val (.ref o39), .val (.ref o40), .val (.double (own_qw sm (FP.l2d (A.toInt64)) (FP.i2d iR))), .second, .val (.double (own_qw sm (FP.l2d (A.toInt64 + B.toInt64)) (FP.i2d iR))), .second, .val (.double (FP.dmul (FP.i2d sm) (FP.i2d iR))), .second, .val (.int (1 : Int32))] []))
              refine Ends.pre (fun tt kt => XS.dload X42.here hx rfl (hb hby at_319) rfl kt) ?_
              show Ends p e below _ (T42.setTop (mkF m 321 #[.val (.int qR), .val (.int iR), .val (.int kR), .val (.int kS), .val (.int md), .val (.double (FP.i2d iR)), .second, .val (.int sm), .val (.int wh), .val (.int mm), .val (.double (FP.l2d (A.toInt64))), .second, .val (.double (FP.l2d (A.toInt64 + B.toInt64))), .second, .val (.ref o39), .val (.ref o40), .val (.double (own_qw sm (FP.l2d (A.toInt64)) (FP.i2d iR))), .second, .val (.double (own_qw sm (FP.l2d (A.toInt64 + B.toInt64)) (FP.i2d iR))), .second, .val (.double (FP.dmul (FP.i2d sm) (FP.i2d iR))), .second, .val (.int (1 : Int32))] [(.double (own_qw sm (FP.l2d (A.toInt64 + B.toInt64)) (FP.i2d iR)))]))
              refine Ends.pre (fun tt kt => XS.dload X42.here hx rfl (hb hby at_321) rfl kt) ?_
              show Ends p e below _ (T42.setTop (mkF m 323 #[.val (.int qR), .val (.int iR), .val (.int kR), .val (.int kS), .val (.int md), .val (.double (FP.i2d iR)), .second, .val (.int sm), .val (.int wh), .val (.int mm), .val (.double (FP.l2d (A.toInt64))), .second, .val (.double (FP.l2d (A.toInt64 + B.toInt64))), .second, .val (.ref o39), .val (.ref o40), .val (.double (own_qw sm (FP.l2d (A.toInt64)) (FP.i2d iR))), .second, .val (.double (own_qw sm (FP.l2d (A.toInt64 + B.toInt64)) (FP.i2d iR))), .second, .val (.double (FP.dmul (FP.i2d sm) (FP.i2d iR))), .second, .val (.int (1 : Int32))] [(.double (FP.dmul (FP.i2d sm) (FP.i2d iR))), (.double (own_qw sm (FP.l2d (A.toInt64 + B.toInt64)) (FP.i2d iR)))]))
              refine Ends.pre (fun tt kt => XS.dcmpS X42.here hx rfl (v := (cmpValue (FP.dcmp (own_qw sm (FP.l2d (A.toInt64 + B.toInt64)) (FP.i2d iR)) (FP.dmul (FP.i2d sm) (FP.i2d iR))) .g)) (hb hby at_323) rfl rfl kt) ?_
              show Ends p e below _ (T42.setTop (mkF m 324 #[.val (.int qR), .val (.int iR), .val (.int kR), .val (.int kS), .val (.int md), .val (.double (FP.i2d iR)), .second, .val (.int sm), .val (.int wh), .val (.int mm), .val (.double (FP.l2d (A.toInt64))), .second, .val (.double (FP.l2d (A.toInt64 + B.toInt64))), .second, .val (.ref o39), .val (.ref o40), .val (.double (own_qw sm (FP.l2d (A.toInt64)) (FP.i2d iR))), .second, .val (.double (own_qw sm (FP.l2d (A.toInt64 + B.toInt64)) (FP.i2d iR))), .second, .val (.double (FP.dmul (FP.i2d sm) (FP.i2d iR))), .second, .val (.int (1 : Int32))] [(.int (cmpValue (FP.dcmp (own_qw sm (FP.l2d (A.toInt64 + B.toInt64)) (FP.i2d iR)) (FP.dmul (FP.i2d sm) (FP.i2d iR))) .g))]))
              refine Ends.pre (fun tt kt => XS.ifNo X42.here hx rfl (hb hby at_324) rfl ((if0 _ _).trans (flt l4.g).2.2.1) kt) ?_
              show Ends p e below _ (T42.setTop (mkF m 327 #[.val (.int qR), .val (.int iR), .val (.int kR), .val (.int kS), .val (.int md), .val (.double (FP.i2d iR)), .second, .val (.int sm), .val (.int wh), .val (.int mm), .val (.double (FP.l2d (A.toInt64))), .second, .val (.double (FP.l2d (A.toInt64 + B.toInt64))), .second, .val (.ref o39), .val (.ref o40), .val (.double (own_qw sm (FP.l2d (A.toInt64)) (FP.i2d iR))), .second, .val (.double (own_qw sm (FP.l2d (A.toInt64 + B.toInt64)) (FP.i2d iR))), .second, .val (.double (FP.dmul (FP.i2d sm) (FP.i2d iR))), .second, .val (.int (1 : Int32))] []))
              refine Ends.pre (fun tt kt => XS.dload X42.here hx rfl (hb hby at_327) rfl kt) ?_
              show Ends p e below _ (T42.setTop (mkF m 329 #[.val (.int qR), .val (.int iR), .val (.int kR), .val (.int kS), .val (.int md), .val (.double (FP.i2d iR)), .second, .val (.int sm), .val (.int wh), .val (.int mm), .val (.double (FP.l2d (A.toInt64))), .second, .val (.double (FP.l2d (A.toInt64 + B.toInt64))), .second, .val (.ref o39), .val (.ref o40), .val (.double (own_qw sm (FP.l2d (A.toInt64)) (FP.i2d iR))), .second, .val (.double (own_qw sm (FP.l2d (A.toInt64 + B.toInt64)) (FP.i2d iR))), .second, .val (.double (FP.dmul (FP.i2d sm) (FP.i2d iR))), .second, .val (.int (1 : Int32))] [(.double (own_qw sm (FP.l2d (A.toInt64)) (FP.i2d iR)))]))
              refine Ends.pre (fun tt kt => XS.dload X42.here hx rfl (hb hby at_329) rfl kt) ?_
              show Ends p e below _ (T42.setTop (mkF m 331 #[.val (.int qR), .val (.int iR), .val (.int kR), .val (.int kS), .val (.int md), .val (.double (FP.i2d iR)), .second, .val (.int sm), .val (.int wh), .val (.int mm), .val (.double (FP.l2d (A.toInt64))), .second, .val (.double (FP.l2d (A.toInt64 + B.toInt64))), .second, .val (.ref o39), .val (.ref o40), .val (.double (own_qw sm (FP.l2d (A.toInt64)) (FP.i2d iR))), .second, .val (.double (own_qw sm (FP.l2d (A.toInt64 + B.toInt64)) (FP.i2d iR))), .second, .val (.double (FP.dmul (FP.i2d sm) (FP.i2d iR))), .second, .val (.int (1 : Int32))] [(.double (own_qw sm (FP.l2d (A.toInt64 + B.toInt64)) (FP.i2d iR))), (.double (own_qw sm (FP.l2d (A.toInt64)) (FP.i2d iR)))]))
              refine Ends.pre (fun tt kt => XS.dcmpS X42.here hx rfl (v := (cmpValue (FP.dcmp (own_qw sm (FP.l2d (A.toInt64)) (FP.i2d iR)) (own_qw sm (FP.l2d (A.toInt64 + B.toInt64)) (FP.i2d iR))) .g)) (hb hby at_331) rfl rfl kt) ?_
              show Ends p e below _ (T42.setTop (mkF m 332 #[.val (.int qR), .val (.int iR), .val (.int kR), .val (.int kS), .val (.int md), .val (.double (FP.i2d iR)), .second, .val (.int sm), .val (.int wh), .val (.int mm), .val (.double (FP.l2d (A.toInt64))), .second, .val (.double (FP.l2d (A.toInt64 + B.toInt64))), .second, .val (.ref o39), .val (.ref o40), .val (.double (own_qw sm (FP.l2d (A.toInt64)) (FP.i2d iR))), .second, .val (.double (own_qw sm (FP.l2d (A.toInt64 + B.toInt64)) (FP.i2d iR))), .second, .val (.double (FP.dmul (FP.i2d sm) (FP.i2d iR))), .second, .val (.int (1 : Int32))] [(.int (cmpValue (FP.dcmp (own_qw sm (FP.l2d (A.toInt64)) (FP.i2d iR)) (own_qw sm (FP.l2d (A.toInt64 + B.toInt64)) (FP.i2d iR))) .g))]))
              refine Ends.pre (fun tt kt => XS.ifNo X42.here hx rfl (hb hby at_332) rfl ((if0 _ _).trans (flt l5.g).2.2.1) kt) ?_
              show Ends p e below _ (T42.setTop (mkF m 335 #[.val (.int qR), .val (.int iR), .val (.int kR), .val (.int kS), .val (.int md), .val (.double (FP.i2d iR)), .second, .val (.int sm), .val (.int wh), .val (.int mm), .val (.double (FP.l2d (A.toInt64))), .second, .val (.double (FP.l2d (A.toInt64 + B.toInt64))), .second, .val (.ref o39), .val (.ref o40), .val (.double (own_qw sm (FP.l2d (A.toInt64)) (FP.i2d iR))), .second, .val (.double (own_qw sm (FP.l2d (A.toInt64 + B.toInt64)) (FP.i2d iR))), .second, .val (.double (FP.dmul (FP.i2d sm) (FP.i2d iR))), .second, .val (.int (1 : Int32))] []))
              refine Ends.pre (fun tt kt => XS.iload X42.here hx rfl (hb hby at_335) rfl kt) ?_
              show Ends p e below _ (T42.setTop (mkF m 337 #[.val (.int qR), .val (.int iR), .val (.int kR), .val (.int kS), .val (.int md), .val (.double (FP.i2d iR)), .second, .val (.int sm), .val (.int wh), .val (.int mm), .val (.double (FP.l2d (A.toInt64))), .second, .val (.double (FP.l2d (A.toInt64 + B.toInt64))), .second, .val (.ref o39), .val (.ref o40), .val (.double (own_qw sm (FP.l2d (A.toInt64)) (FP.i2d iR))), .second, .val (.double (own_qw sm (FP.l2d (A.toInt64 + B.toInt64)) (FP.i2d iR))), .second, .val (.double (FP.dmul (FP.i2d sm) (FP.i2d iR))), .second, .val (.int (1 : Int32))] [(.int (1 : Int32))]))
              refine Ends.pre (fun tt kt => XS.ifNo X42.here hx rfl (hb hby at_337) rfl ((if0 _ _).trans (feq (by decide)).1) kt) ?_
              show Ends p e below _ (T42.setTop (mkF m 340 #[.val (.int qR), .val (.int iR), .val (.int kR), .val (.int kS), .val (.int md), .val (.double (FP.i2d iR)), .second, .val (.int sm), .val (.int wh), .val (.int mm), .val (.double (FP.l2d (A.toInt64))), .second, .val (.double (FP.l2d (A.toInt64 + B.toInt64))), .second, .val (.ref o39), .val (.ref o40), .val (.double (own_qw sm (FP.l2d (A.toInt64)) (FP.i2d iR))), .second, .val (.double (own_qw sm (FP.l2d (A.toInt64 + B.toInt64)) (FP.i2d iR))), .second, .val (.double (FP.dmul (FP.i2d sm) (FP.i2d iR))), .second, .val (.int (1 : Int32))] []))
              refine Ends.pre (fun tt kt => XS.iconst X42.here hx rfl (hb hby at_340) kt) ?_
              show Ends p e below _ (T42.setTop (mkF m 341 #[.val (.int qR), .val (.int iR), .val (.int kR), .val (.int kS), .val (.int md), .val (.double (FP.i2d iR)), .second, .val (.int sm), .val (.int wh), .val (.int mm), .val (.double (FP.l2d (A.toInt64))), .second, .val (.double (FP.l2d (A.toInt64 + B.toInt64))), .second, .val (.ref o39), .val (.ref o40), .val (.double (own_qw sm (FP.l2d (A.toInt64)) (FP.i2d iR))), .second, .val (.double (own_qw sm (FP.l2d (A.toInt64 + B.toInt64)) (FP.i2d iR))), .second, .val (.double (FP.dmul (FP.i2d sm) (FP.i2d iR))), .second, .val (.int (1 : Int32))] [(.int (1 : Int32))]))
              refine Ends.pre (fun tt kt => XS.goto X42.here hx rfl (pc0 := 341) (pc' := 345) rfl (hb hby at_341) (by decide) (by decide) kt) ?_
              show Ends p e below _ (T42.setTop (mkF m 345 #[.val (.int qR), .val (.int iR), .val (.int kR), .val (.int kS), .val (.int md), .val (.double (FP.i2d iR)), .second, .val (.int sm), .val (.int wh), .val (.int mm), .val (.double (FP.l2d (A.toInt64))), .second, .val (.double (FP.l2d (A.toInt64 + B.toInt64))), .second, .val (.ref o39), .val (.ref o40), .val (.double (own_qw sm (FP.l2d (A.toInt64)) (FP.i2d iR))), .second, .val (.double (own_qw sm (FP.l2d (A.toInt64 + B.toInt64)) (FP.i2d iR))), .second, .val (.double (FP.dmul (FP.i2d sm) (FP.i2d iR))), .second, .val (.int (1 : Int32))] [(.int (1 : Int32))]))
              obtain ⟨fs, hr, hrun, hended, hW, hsame⟩ := X42.leave (v := some (.int (1 : Int32))) (fun h => by rw [Bd.returns] at h; cases h)
              refine ⟨_, _, retN X42 hx (t := .boolean) Bd.returns (by simp) (hb hby at_345) hr, hrun, hended, _, _, rfl, ?_, ⟨_, rfl⟩, hW, hsame.mono (by decide) (by decide)⟩
              show Q0 Z _ _ _ _ _ _ _ _ _ _ _ _ h0 n0 _ T42.heap _
              rw [e42]
              exact ⟨rfl, N42⟩
set_option maxRecDepth 65536 in
set_option maxHeartbeats 40000000 in
theorem comes_1 {Post : Tables → Env → Array Value → State → Outcome → State → Prop} (hpost : ∀ tb e args s v u, (limb_1_1.after args s (.returned v) u = true ∧ limb_1_2.after args s (.returned v) u = true ∧ True) → FrameEnd s (.returned v) u (Jvm.fieldLocs frame_1_writes args s ++ Jvm.arrayLocs frame_1_arrays args s ++ Jvm.staticLocs frame_1_statics s) 16 128 → Post tb e args s (.returned v) u) :
    ArmFor flags0 classFile x code maxLocals ret World_1 tables_1 room_1 Calls_1 rest_1 Pre_1 Post := by
  intro l hfl _ _ p e ha hc hk s m args below hf hA hF happ hP
  obtain ⟨hcalls, hrest, hpre⟩ := hP
  obtain ⟨-, -, -, hnamed, -, -, -, hat⟩ := (Spec.applies_iff hf).mp happ
  obtain ⟨hg, hn⟩ := and_e (Cond.before_iff.mp (show (Jvm.Cond.and given_1 narrow_1).before args s = true from hpre))
  obtain ⟨gc, gg⟩ := and_e hg
  obtain ⟨ga0, gb0⟩ := and_e gg
  obtain ⟨ga1, gb1⟩ := and_e gb0
  obtain ⟨ga2, gb2⟩ := and_e gb1
  obtain ⟨ga3, gb3⟩ := and_e gb2
  obtain ⟨w0, w1, w2, w3, w4, rfl⟩ : ∃ w0 w1 w2 w3 w4 : Value, args = #[w0, w1, w2, w3, w4] := by
    have hs : args.size = 5 := by simpa [Cond.value, given_1] using gc
    obtain ⟨L⟩ := args
    match L, hs with
    | [w0, w1, w2, w3, w4], _ => exact ⟨w0, w1, w2, w3, w4, rfl⟩
  have hw := fun d (hd : d ∈ tables_1) => atoms_spec (ws := Jvm.Cond.code x code maxLocals ret :: tables_1) hat d (List.mem_cons_of_mem _ hd)
  obtain ⟨i0, ei0⟩ := is_v ga0
  obtain rfl : w0 = (.int i0) := Option.some.inj ei0
  obtain ⟨i1, ei1⟩ := is_v ga1
  obtain rfl : w1 = (.int i1) := Option.some.inj ei1
  obtain ⟨i2, ei2⟩ := is_v ga2
  obtain rfl : w2 = (.int i2) := Option.some.inj ei2
  obtain ⟨i3, ei3⟩ := is_v ga3
  obtain rfl : w3 = (.int i3) := Option.some.inj ei3
  obtain ⟨i4, ei4⟩ := is_v gb3
  obtain rfl : w4 = (.int i4) := Option.some.inj ei4
  obtain ⟨c0, r0⟩ := and_e hn
  obtain ⟨c1, r1⟩ := and_e r0
  obtain ⟨c2, r2⟩ := and_e r1
  obtain ⟨c3, r3⟩ := and_e r2
  obtain ⟨c4, r4⟩ := and_e r3
  obtain ⟨c5, r5⟩ := and_e r4
  obtain ⟨c6, r6⟩ := and_e r5
  obtain ⟨c7, r7⟩ := and_e r6
  obtain ⟨c8, r8⟩ := and_e r7
  obtain ⟨c9, r9⟩ := and_e r8
  obtain ⟨c10, r10⟩ := and_e r9
  have c11 := r10
  obtain ⟨ai, v_ai⟩ := exa_v c0
  have SI := Sta.start v_ai (Or.inr ⟨(hw _ (List.mem_of_getElem? (i := 16) rfl)), (hw _ (List.mem_of_getElem? (i := 17) rfl))⟩)
  have E_ai := Exa.start v_ai c0
  obtain ⟨am, v_am⟩ := exa_v c1
  have SB := Sta.start v_am (Or.inr ⟨(hw _ (List.mem_of_getElem? (i := 22) rfl)), (hw _ (List.mem_of_getElem? (i := 23) rfl))⟩)
  have E_am := Exa.start v_am c1
  obtain ⟨an, v_an⟩ := exa_v c2
  have SV := Sta.start v_an (Or.inr ⟨(hw _ (List.mem_of_getElem? (i := 25) rfl)), (hw _ (List.mem_of_getElem? (i := 26) rfl))⟩)
  have E_an := Exa.start v_an c2
  obtain ⟨aL, v_aL⟩ := exa_v c3
  have SL := Sta.start v_aL (Or.inr ⟨(hw _ (List.mem_of_getElem? (i := 22) rfl)), (hw _ (List.mem_of_getElem? (i := 40) rfl))⟩)
  have E_aL := Exa.start v_aL c3
  obtain ⟨aP, v_aP⟩ := exa_v c6
  have SP := Sta.start v_aP (Or.inr ⟨(hw _ (List.mem_of_getElem? (i := 22) rfl)), (hw _ (List.mem_of_getElem? (i := 42) rfl))⟩)
  have E_aP := Exa.start v_aP c6
  obtain ⟨aA, v_aA⟩ := exa_v c8
  have SA := Sta.start v_aA (Or.inr ⟨(hw _ (List.mem_of_getElem? (i := 22) rfl)), (hw _ (List.mem_of_getElem? (i := 49) rfl))⟩)
  have E_aA := Exa.start v_aA c8
  obtain ⟨aF, v_aF⟩ := exa_v c10
  have SF := Sta.start v_aF (Or.inr ⟨(hw _ (List.mem_of_getElem? (i := 22) rfl)), (hw _ (List.mem_of_getElem? (i := 62) rfl))⟩)
  have E_aF := Exa.start v_aF c10
  have O_am := own_fld v_am (Term.int_eval 0) ⟨_, rfl⟩ c4
  have O_aL := own_fld v_aL (Term.int_eval 1) ⟨_, rfl⟩ c5
  have O_aP := own_fld v_aP (Term.int_eval 2) ⟨_, rfl⟩ c7
  have O_aA := own_fld v_aA (Term.int_eval 3) ⟨_, rfl⟩ c9
  have O_aF := own_fld v_aF (Term.int_eval 4) ⟨_, rfl⟩ c11
  obtain ⟨n, o, h1, h2, h3, _, L, rfl, ⟨rfl, N⟩, hq⟩ := rm0 l s _ hw tables_1 i0 i1 i2 i3 i4 am an ai aL aP aA aF s.heap s.heap.size (Nat.le_refl _) E_am E_an E_ai SL SP SA SF SV SB SI (own_ne O_am O_aL (by decide)) (own_ne O_am O_aP (by decide)) (own_ne O_am O_aA (by decide)) (own_ne O_am O_aF (by decide)) p e ha hc hk s m _ below hf ((Spec.applies_iff_loose hf).mp happ).1 ⟨rfl, State.Warmed39.refl s, rfl⟩ trivial
  refine ⟨n, _, h1, h2, h3, hpost _ _ _ _ _ _ ⟨Cond.after_iff.mpr rfl, Cond.after_iff.mpr (eq_i res_at (Term.int_eval (1)) rfl), trivial⟩ ⟨hq.1, hq.2.1, (hq.2.2.sift fun y hy => Or.inr (N y hy)).mono (by decide) (by decide)⟩⟩
theorem main_1_1 : Claimed_1_1 := comes_1 fun _ _ _ _ _ _ h hF => ⟨h.1, hF⟩
theorem main_1_2 : Claimed_1_2 := comes_1 fun _ _ _ _ _ _ h hF => ⟨h.2.1, hF⟩
end Jvm.Pilot.@@N@@
namespace Jvm.Pilot.@@N@@
open Jvm Jvm.ClassFile Sem Op Lib Jvm.Free Jvm.Stand Jvm.Pilot.@@N@@.Jvm.D
/-! MADE BY PROGRAM (witnessworld.py) out of the Statement's table words and the real class files: 17 classes; the members and pool entries that the words name. The judged class is class 1, her method 2. -/
namespace start1
open Jvm.ClassFile
def u (s : String) : CpInfo := .utf8 (stringToUtf16 s)
/-- a pool by its gaps: so many unusable entries, then the entry; so many at the end -/
def gap : Nat → List CpInfo → List CpInfo
  | 0, r => r
  | n + 1, r => .unusable :: gap n r
def poolList (es : List (Nat × CpInfo)) (last : Nat) : List CpInfo := es.foldr (fun e r => gap e.1 (e.2 :: r)) (gap last [])
def pool (es : List (Nat × CpInfo)) (last : Nat) : Array CpInfo := ⟨poolList es last⟩
def fileOf (pool : Array CpInfo) (this : Nat) (attrs : Array Attribute := #[]) (ms : Array MethodInfo := #[]) (fl : Nat := 33) (sup : Nat := 0) (ifs : Array Nat := #[]) (fds : Array FieldInfo := #[]) : ClassFile where
  minorVersion := 0
  majorVersion := 65
  constantPool := pool
  accessFlags := fl
  thisClass := this
  superClass := sup
  interfaces := ifs
  fields := fds
  methods := ms
  attributes := attrs
def plain (name : String) (sup : Option ClassId) : Class where
  name := name
  kind := .ordinary
  loader := none
  accessFlags := 33
  super := sup
  interfaces := #[]
  cf := none
  fields := #[]
  methods := #[]
  instanceTypes := #[]
  staticTypes := #[]
  resolved := #[]
  callSites := []
  init := .initialized
  statics := none
  mirror := none

def pool0 : Array CpInfo := pool [(5, u "<init>"), (0, u "()V"), (1, .class_ 10), (1, u "java/lang/Object")] 113

def k0c0 : Code := { maxStack := 0, maxLocals := 1, code := object_method_1_code, exceptionTable := #[], attributes := #[] }
def k0m0 : Method := { name := "<init>", desc := "()V", sig := { parameters := [], returnType := none }, accessFlags := 1, code := some k0c0 }
/-- java/lang/Object -/
def k0 : Class := { plain "java/lang/Object" none with
  accessFlags := 33
  interfaces := #[]
  cf := some (fileOf pool0 8 #[] #[{ accessFlags := 1, nameIndex := 5, descriptorIndex := 6, attributes := #[] }] 33 0 #[] #[])
  fields := #[]
  methods := #[k0m0]
  instanceTypes := #[]
  staticTypes := #[]
  resolved := Array.replicate 124 none
  statics := none }

def pool1 : Array CpInfo := pool [(2, .class_ 4), (1, u "java/lang/Object"), (0, u "<init>"), (0, u "()V"), (0, .class_ 8), (0, u "com/example/bare_ranker/bareranker/search/Bm25"), (0, .double 4608083138725491507), (1, .double 4604930618986332160), (1, .fieldref 14 15), (0, .class_ 16), (0, .nameAndType 17 18), (0, u "com/example/bare_ranker/bareranker/search/Idf"), (0, u "LOG1P"), (0, u "Lcom/example/bare_ranker/bareranker/search/Idf;"), (0, .methodref 7 20), (0, .nameAndType 5 21), (0, u "(DDLcom/example/bare_ranker/bareranker/search/Idf;D)V"), (0, .integer 67108863), (0, .integer 2147483647), (0, .methodref 25 26), (0, .class_ 27), (0, .nameAndType 28 29), (0, u "java/lang/Math"), (0, u "max"), (0, u "(II)I"), (0, .methodref 31 32), (0, .class_ 33), (0, .nameAndType 34 35), (0, u "com/example/bare_ranker/bareranker/search/Bm25QueryWeightPinLaw"), (0, u "make"), (0, u "(D)Lcom/example/bare_ranker/bareranker/search/Bm25;"), (0, .methodref 7 37), (0, .nameAndType 38 39), (0, u "queryWeight"), (0, u "(ID)D"), (0, .double 9218868437227405312), (1, .double 9218868437227405311), (3, u "law"), (0, u "(IIIII)Z")] 3

def k1m0 : Method := { name := "<init>", desc := "()V", sig := { parameters := [], returnType := none }, accessFlags := 1, code := none }
def k1c1 : Code := { maxStack := 9, maxLocals := 2, code := method_2_code, exceptionTable := #[], attributes := #[] }
def k1m1 : Method := { name := "make", desc := "(D)Lcom/example/bare_ranker/bareranker/search/Bm25;", sig := { parameters := [.double], returnType := some (.object "com/example/bare_ranker/bareranker/search/Bm25") }, accessFlags := 10, code := some k1c1 }
def k1c2 : Code := { maxStack := 6, maxLocals := 23, code := code, exceptionTable := #[], attributes := #[] }
def k1m2 : Method := { name := "law", desc := "(IIIII)Z", sig := { parameters := [.int, .int, .int, .int, .int], returnType := some .boolean }, accessFlags := 9, code := some k1c2 }
/-- com/example/bare_ranker/bareranker/search/Bm25QueryWeightPinLaw -/
def k1 : Class := { plain "com/example/bare_ranker/bareranker/search/Bm25QueryWeightPinLaw" (some 0) with
  accessFlags := 49
  interfaces := #[]
  cf := some (fileOf pool1 31 #[] #[{ accessFlags := 1, nameIndex := 5, descriptorIndex := 6, attributes := #[] }, { accessFlags := 10, nameIndex := 34, descriptorIndex := 35, attributes := #[] }, { accessFlags := 9, nameIndex := 46, descriptorIndex := 47, attributes := #[] }] 49 2 #[] #[])
  fields := #[]
  methods := #[k1m0, k1m1, k1m2]
  instanceTypes := #[]
  staticTypes := #[]
  resolved := Array.replicate 51 none
  statics := none }

def pool2 : Array CpInfo := pool [(1, .class_ 2), (0, u "java/lang/Math"), (1, .class_ 6), (1, u "java/lang/Object"), (0, u "<init>"), (0, u "()V"), (89, .class_ 100), (1, u "java/lang/Math$RandomNumberGeneratorHolder"), (71, u "negativeZeroFloatBits"), (0, u "J"), (2, u "negativeZeroDoubleBits"), (21, u "max"), (46, u "$assertionsDisabled"), (0, u "Z"), (88, u "(II)I"), (2, u "twoToTheDoubleScaleDown"), (0, u "D"), (4, u "twoToTheDoubleScaleUp"), (9, u "E"), (3, u "PI"), (2, u "TAU"), (2, u "DEGREES_TO_RADIANS"), (0, u "RADIANS_TO_DEGREES")] 94

def k2m0 : Method := { name := "<init>", desc := "()V", sig := { parameters := [], returnType := none }, accessFlags := 2, code := none }
def k2c1 : Code := { maxStack := 2, maxLocals := 2, code := jdk_29_method_65_code, exceptionTable := #[], attributes := #[] }
def k2m1 : Method := { name := "max", desc := "(II)I", sig := { parameters := [.int, .int], returnType := some .int }, accessFlags := 9, code := some k2c1 }
/-- java/lang/Math -/
def k2 : Class := { plain "java/lang/Math" (some 0) with
  accessFlags := 49
  interfaces := #[]
  cf := some (fileOf pool2 1 #[.nestMembers #[98]] #[{ accessFlags := 2, nameIndex := 7, descriptorIndex := 8, attributes := #[] }, { accessFlags := 9, nameIndex := 198, descriptorIndex := 335, attributes := #[] }] 49 4 #[] #[{ accessFlags := 25, nameIndex := 354, descriptorIndex := 339, attributes := #[] }, { accessFlags := 25, nameIndex := 358, descriptorIndex := 339, attributes := #[] }, { accessFlags := 25, nameIndex := 361, descriptorIndex := 339, attributes := #[] }, { accessFlags := 26, nameIndex := 364, descriptorIndex := 339, attributes := #[] }, { accessFlags := 26, nameIndex := 365, descriptorIndex := 339, attributes := #[] }, { accessFlags := 26, nameIndex := 172, descriptorIndex := 173, attributes := #[] }, { accessFlags := 26, nameIndex := 176, descriptorIndex := 173, attributes := #[] }, { accessFlags := 8, nameIndex := 344, descriptorIndex := 339, attributes := #[] }, { accessFlags := 8, nameIndex := 338, descriptorIndex := 339, attributes := #[] }, { accessFlags := 4120, nameIndex := 245, descriptorIndex := 246, attributes := #[] }])
  fields := #[{ name := "E", type := .double, accessFlags := 25, slot := 0, constantValue := 0 }, { name := "PI", type := .double, accessFlags := 25, slot := 1, constantValue := 0 }, { name := "TAU", type := .double, accessFlags := 25, slot := 2, constantValue := 0 }, { name := "DEGREES_TO_RADIANS", type := .double, accessFlags := 26, slot := 3, constantValue := 0 }, { name := "RADIANS_TO_DEGREES", type := .double, accessFlags := 26, slot := 4, constantValue := 0 }, { name := "negativeZeroFloatBits", type := .long, accessFlags := 26, slot := 5, constantValue := 0 }, { name := "negativeZeroDoubleBits", type := .long, accessFlags := 26, slot := 6, constantValue := 0 }, { name := "twoToTheDoubleScaleUp", type := .double, accessFlags := 8, slot := 7, constantValue := 0 }, { name := "twoToTheDoubleScaleDown", type := .double, accessFlags := 8, slot := 8, constantValue := 0 }, { name := "$assertionsDisabled", type := .boolean, accessFlags := 4120, slot := 9, constantValue := 0 }]
  methods := #[k2m0, k2m1]
  instanceTypes := #[]
  staticTypes := #[.double, .double, .double, .double, .double, .long, .long, .double, .double, .boolean]
  resolved := Array.replicate 460 none
  statics := none }

def pool3 : Array CpInfo := pool [(4, .class_ 6), (1, u "com/example/bare_ranker/bareranker/search/Idf"), (1, u "Lcom/example/bare_ranker/bareranker/search/Idf;"), (0, .class_ 10), (0, u "com/example/bare_ranker/bareranker/search/Bm25"), (4, u "<init>"), (0, u "(DDLcom/example/bare_ranker/bareranker/search/Idf;D)V"), (0, .fieldref 18 19), (0, .class_ 20), (0, .nameAndType 21 22), (0, u "com/example/bare_ranker/bareranker/search/Model"), (0, u "BM25"), (0, u "Lcom/example/bare_ranker/bareranker/search/Model;"), (0, .fieldref 24 25), (0, .class_ 26), (0, .nameAndType 27 28), (0, u "com/example/bare_ranker/bareranker/search/LengthNorm"), (0, u "PIVOTED"), (0, u "Lcom/example/bare_ranker/bareranker/search/LengthNorm;"), (0, .methodref 9 30), (0, .nameAndType 15 31), (0, u "(Lcom/example/bare_ranker/bareranker/search/Model;DDLcom/example/bare_ranker/bareranker/search/LengthNorm;Lcom/example/bare_ranker/bareranker/search/Idf;DD)V"), (0, .methodref 33 34), (0, .class_ 35), (0, .nameAndType 15 36), (0, u "java/lang/Object"), (0, u "()V"), (0, .double 4696837146684686336), (10, .methodref 18 49), (0, .nameAndType 50 51), (0, u "takesDelta"), (0, u "()Z"), (7, .methodref 18 60), (0, .nameAndType 61 51), (0, u "fitsK1"), (0, .double 4608083138725491507), (5, .methodref 24 69), (0, .nameAndType 70 51), (0, u "takesB"), (0, .double 4604930618986332160), (3, .methodref 18 76), (0, .nameAndType 77 51), (0, u "weighsFields"), (1, .methodref 18 80), (0, .nameAndType 81 82), (0, u "takesNorm"), (0, u "(Lcom/example/bare_ranker/bareranker/search/LengthNorm;)Z"), (3, .fieldref 9 87), (0, .nameAndType 88 22), (0, u "model"), (0, .fieldref 9 90), (0, .nameAndType 91 92), (0, u "k1"), (0, u "D"), (0, .fieldref 9 94), (0, .nameAndType 95 92), (0, u "b"), (0, .fieldref 9 97), (0, .nameAndType 98 28), (0, u "norm"), (0, .methodref 100 101), (0, .class_ 102), (0, .nameAndType 103 104), (0, u "java/util/Objects"), (0, u "requireNonNull"), (0, u "(Ljava/lang/Object;)Ljava/lang/Object;"), (0, .fieldref 9 106), (0, .nameAndType 107 8), (0, u "idfForm"), (0, .fieldref 9 109), (0, .nameAndType 110 92), (0, u "k3"), (0, .fieldref 9 112), (0, .nameAndType 113 92), (0, u "delta"), (48, .class_ 164), (1, u "com/example/bare_ranker/bareranker/search/Bm25$1"), (10, u "DEFAULT_K1"), (1, u "DEFAULT_B"), (0, u "UNSATURATED_K3"), (0, u "MAX_K1"), (0, u "MAX_DELTA"), (9, u "queryWeight"), (0, u "(ID)D")] 30

def k3c0 : Code := { maxStack := 12, maxLocals := 8, code := prog_32_method_2_code, exceptionTable := #[], attributes := #[] }
def k3m0 : Method := { name := "<init>", desc := "(DDLcom/example/bare_ranker/bareranker/search/Idf;D)V", sig := { parameters := [.double, .double, (.object "com/example/bare_ranker/bareranker/search/Idf"), .double], returnType := none }, accessFlags := 1, code := some k3c0 }
def k3c1 : Code := { maxStack := 8, maxLocals := 12, code := prog_32_method_3_code, exceptionTable := #[], attributes := #[] }
def k3m1 : Method := { name := "<init>", desc := "(Lcom/example/bare_ranker/bareranker/search/Model;DDLcom/example/bare_ranker/bareranker/search/LengthNorm;Lcom/example/bare_ranker/bareranker/search/Idf;DD)V", sig := { parameters := [(.object "com/example/bare_ranker/bareranker/search/Model"), .double, .double, (.object "com/example/bare_ranker/bareranker/search/LengthNorm"), (.object "com/example/bare_ranker/bareranker/search/Idf"), .double, .double], returnType := none }, accessFlags := 1, code := some k3c1 }
def k3c2 : Code := { maxStack := 6, maxLocals := 8, code := prog_32_method_8_code, exceptionTable := #[], attributes := #[] }
def k3m2 : Method := { name := "queryWeight", desc := "(ID)D", sig := { parameters := [.int, .double], returnType := some .double }, accessFlags := 0, code := some k3c2 }
/-- com/example/bare_ranker/bareranker/search/Bm25 -/
def k3 : Class := { plain "com/example/bare_ranker/bareranker/search/Bm25" (some 0) with
  accessFlags := 33
  interfaces := #[]
  cf := some (fileOf pool3 9 #[.nestMembers #[162]] #[{ accessFlags := 1, nameIndex := 15, descriptorIndex := 16, attributes := #[] }, { accessFlags := 1, nameIndex := 15, descriptorIndex := 31, attributes := #[] }, { accessFlags := 0, nameIndex := 190, descriptorIndex := 191, attributes := #[] }] 33 33 #[] #[{ accessFlags := 25, nameIndex := 175, descriptorIndex := 92, attributes := #[] }, { accessFlags := 25, nameIndex := 177, descriptorIndex := 92, attributes := #[] }, { accessFlags := 25, nameIndex := 178, descriptorIndex := 92, attributes := #[] }, { accessFlags := 25, nameIndex := 179, descriptorIndex := 92, attributes := #[] }, { accessFlags := 25, nameIndex := 180, descriptorIndex := 92, attributes := #[] }, { accessFlags := 18, nameIndex := 88, descriptorIndex := 22, attributes := #[] }, { accessFlags := 18, nameIndex := 91, descriptorIndex := 92, attributes := #[] }, { accessFlags := 18, nameIndex := 95, descriptorIndex := 92, attributes := #[] }, { accessFlags := 18, nameIndex := 98, descriptorIndex := 28, attributes := #[] }, { accessFlags := 18, nameIndex := 107, descriptorIndex := 8, attributes := #[] }, { accessFlags := 18, nameIndex := 110, descriptorIndex := 92, attributes := #[] }, { accessFlags := 18, nameIndex := 113, descriptorIndex := 92, attributes := #[] }])
  fields := #[{ name := "DEFAULT_K1", type := .double, accessFlags := 25, slot := 0, constantValue := 0 }, { name := "DEFAULT_B", type := .double, accessFlags := 25, slot := 1, constantValue := 0 }, { name := "UNSATURATED_K3", type := .double, accessFlags := 25, slot := 2, constantValue := 0 }, { name := "MAX_K1", type := .double, accessFlags := 25, slot := 3, constantValue := 0 }, { name := "MAX_DELTA", type := .double, accessFlags := 25, slot := 4, constantValue := 0 }, { name := "model", type := (.object "com/example/bare_ranker/bareranker/search/Model"), accessFlags := 18, slot := 0, constantValue := 0 }, { name := "k1", type := .double, accessFlags := 18, slot := 1, constantValue := 0 }, { name := "b", type := .double, accessFlags := 18, slot := 2, constantValue := 0 }, { name := "norm", type := (.object "com/example/bare_ranker/bareranker/search/LengthNorm"), accessFlags := 18, slot := 3, constantValue := 0 }, { name := "idfForm", type := (.object "com/example/bare_ranker/bareranker/search/Idf"), accessFlags := 18, slot := 4, constantValue := 0 }, { name := "k3", type := .double, accessFlags := 18, slot := 5, constantValue := 0 }, { name := "delta", type := .double, accessFlags := 18, slot := 6, constantValue := 0 }]
  methods := #[k3m0, k3m1, k3m2]
  instanceTypes := #[(.object "com/example/bare_ranker/bareranker/search/Model"), .double, .double, (.object "com/example/bare_ranker/bareranker/search/LengthNorm"), (.object "com/example/bare_ranker/bareranker/search/Idf"), .double, .double]
  staticTypes := #[.double, .double, .double, .double, .double]
  resolved := Array.replicate 222 none
  statics := none }

def pool4 : Array CpInfo := pool [(1, .class_ 2), (0, u "java/lang/constant/Constable"), (0, .class_ 4), (0, u "java/lang/Object")] 6

/-- java/lang/constant/Constable -/
def k4 : Class := { plain "java/lang/constant/Constable" (some 0) with
  accessFlags := 1537
  interfaces := #[]
  cf := some (fileOf pool4 1 #[] #[] 1537 3 #[] #[])
  fields := #[]
  methods := #[]
  instanceTypes := #[]
  staticTypes := #[]
  resolved := Array.replicate 11 none
  statics := none }

def pool5 : Array CpInfo := pool [(1, .class_ 2), (0, u "java/lang/Comparable"), (0, .class_ 4), (0, u "java/lang/Object")] 7

/-- java/lang/Comparable -/
def k5 : Class := { plain "java/lang/Comparable" (some 0) with
  accessFlags := 1537
  interfaces := #[]
  cf := some (fileOf pool5 1 #[] #[] 1537 3 #[] #[])
  fields := #[]
  methods := #[]
  instanceTypes := #[]
  staticTypes := #[]
  resolved := Array.replicate 12 none
  statics := none }

def pool6 : Array CpInfo := pool [(1, .class_ 2), (0, u "java/io/Serializable"), (0, .class_ 4), (0, u "java/lang/Object")] 2

/-- java/io/Serializable -/
def k6 : Class := { plain "java/io/Serializable" (some 0) with
  accessFlags := 1537
  interfaces := #[]
  cf := some (fileOf pool6 1 #[] #[] 1537 3 #[] #[])
  fields := #[]
  methods := #[]
  instanceTypes := #[]
  staticTypes := #[]
  resolved := Array.replicate 7 none
  statics := none }

def pool7 : Array CpInfo := pool [(2, .class_ 4), (1, u "java/lang/Enum"), (0, u "name"), (0, u "Ljava/lang/String;"), (2, u "ordinal"), (0, u "I"), (1, .class_ 14), (1, u "java/lang/Object"), (4, u "hash"), (86, .class_ 108), (1, u "java/lang/Enum$EnumDesc"), (2, .class_ 112), (0, u "java/lang/constant/Constable"), (0, .class_ 114), (0, u "java/lang/Comparable"), (0, .class_ 116), (0, u "java/io/Serializable")] 87

/-- java/lang/Enum -/
def k7 : Class := { plain "java/lang/Enum" (some 0) with
  accessFlags := 1057
  interfaces := #[4, 5, 6]
  cf := some (fileOf pool7 2 #[.nestMembers #[106]] #[] 1057 12 #[111, 113, 115] #[{ accessFlags := 18, nameIndex := 5, descriptorIndex := 6, attributes := #[] }, { accessFlags := 18, nameIndex := 9, descriptorIndex := 10, attributes := #[] }, { accessFlags := 2, nameIndex := 19, descriptorIndex := 10, attributes := #[] }])
  fields := #[{ name := "name", type := (.object "java/lang/String"), accessFlags := 18, slot := 0, constantValue := 0 }, { name := "ordinal", type := .int, accessFlags := 18, slot := 1, constantValue := 0 }, { name := "hash", type := .int, accessFlags := 2, slot := 2, constantValue := 0 }]
  methods := #[]
  instanceTypes := #[(.object "java/lang/String"), .int, .int]
  staticTypes := #[]
  resolved := Array.replicate 204 none
  statics := none }

def pool8 : Array CpInfo := pool [(1, .class_ 2), (0, u "com/example/bare_ranker/bareranker/search/Idf"), (2, u "LOG1P"), (0, u "Lcom/example/bare_ranker/bareranker/search/Idf;"), (2, u "RSJ"), (2, u "HALF"), (2, u "ATIRE"), (2, u "PLUS_ONE"), (2, u "$VALUES"), (0, u "[Lcom/example/bare_ranker/bareranker/search/Idf;"), (6, .class_ 31), (1, u "java/lang/Enum"), (8, u "label"), (0, u "Ljava/lang/String;")] 55

/-- com/example/bare_ranker/bareranker/search/Idf -/
def k8 : Class := { plain "com/example/bare_ranker/bareranker/search/Idf" (some 7) with
  accessFlags := 16433
  interfaces := #[]
  cf := some (fileOf pool8 1 #[] #[] 16433 29 #[] #[{ accessFlags := 16409, nameIndex := 5, descriptorIndex := 6, attributes := #[] }, { accessFlags := 16409, nameIndex := 9, descriptorIndex := 6, attributes := #[] }, { accessFlags := 16409, nameIndex := 12, descriptorIndex := 6, attributes := #[] }, { accessFlags := 16409, nameIndex := 15, descriptorIndex := 6, attributes := #[] }, { accessFlags := 16409, nameIndex := 18, descriptorIndex := 6, attributes := #[] }, { accessFlags := 18, nameIndex := 40, descriptorIndex := 41, attributes := #[] }, { accessFlags := 4122, nameIndex := 21, descriptorIndex := 22, attributes := #[] }])
  fields := #[{ name := "LOG1P", type := (.object "com/example/bare_ranker/bareranker/search/Idf"), accessFlags := 16409, slot := 0, constantValue := 0 }, { name := "RSJ", type := (.object "com/example/bare_ranker/bareranker/search/Idf"), accessFlags := 16409, slot := 1, constantValue := 0 }, { name := "HALF", type := (.object "com/example/bare_ranker/bareranker/search/Idf"), accessFlags := 16409, slot := 2, constantValue := 0 }, { name := "ATIRE", type := (.object "com/example/bare_ranker/bareranker/search/Idf"), accessFlags := 16409, slot := 3, constantValue := 0 }, { name := "PLUS_ONE", type := (.object "com/example/bare_ranker/bareranker/search/Idf"), accessFlags := 16409, slot := 4, constantValue := 0 }, { name := "label", type := (.object "java/lang/String"), accessFlags := 18, slot := 3, constantValue := 0 }, { name := "$VALUES", type := (.array (.object "com/example/bare_ranker/bareranker/search/Idf")), accessFlags := 4122, slot := 5, constantValue := 0 }]
  methods := #[]
  instanceTypes := #[(.object "java/lang/String"), .int, .int, (.object "java/lang/String")]
  staticTypes := #[(.object "com/example/bare_ranker/bareranker/search/Idf"), (.object "com/example/bare_ranker/bareranker/search/Idf"), (.object "com/example/bare_ranker/bareranker/search/Idf"), (.object "com/example/bare_ranker/bareranker/search/Idf"), (.object "com/example/bare_ranker/bareranker/search/Idf"), (.array (.object "com/example/bare_ranker/bareranker/search/Idf"))]
  resolved := Array.replicate 97 none
  statics := some 0 }

def pool9 : Array CpInfo := pool [(1, .class_ 2), (0, u "com/example/bare_ranker/bareranker/search/Model"), (2, u "BM25"), (0, u "Lcom/example/bare_ranker/bareranker/search/Model;"), (0, .fieldref 1 8), (0, .nameAndType 9 6), (0, u "BM25L"), (0, .fieldref 1 11), (0, .nameAndType 12 6), (0, u "BM25_PLUS"), (0, .fieldref 1 14), (0, .nameAndType 15 6), (0, u "BM25_ADPT"), (0, .fieldref 1 17), (0, .nameAndType 18 6), (0, u "BM25F"), (2, u "$VALUES"), (0, u "[Lcom/example/bare_ranker/bareranker/search/Model;"), (6, .class_ 31), (1, u "java/lang/Enum"), (8, u "label"), (0, u "Ljava/lang/String;"), (2, u "defaultDelta"), (0, u "D"), (0, .fieldref 47 48), (0, .class_ 49), (0, .nameAndType 50 51), (0, u "com/example/bare_ranker/bareranker/search/LengthNorm"), (0, u "PIVOTED"), (0, u "Lcom/example/bare_ranker/bareranker/search/LengthNorm;"), (32, u "takesDelta"), (0, u "()Z"), (1, u "fitsK1"), (0, u "takesNorm"), (0, u "(Lcom/example/bare_ranker/bareranker/search/LengthNorm;)Z"), (0, u "weighsFields")] 6

def k9c0 : Code := { maxStack := 2, maxLocals := 1, code := prog_41_method_5_code, exceptionTable := #[], attributes := #[] }
def k9m0 : Method := { name := "takesDelta", desc := "()Z", sig := { parameters := [], returnType := some .boolean }, accessFlags := 1, code := some k9c0 }
def k9c1 : Code := { maxStack := 2, maxLocals := 1, code := prog_41_method_6_code, exceptionTable := #[], attributes := #[] }
def k9m1 : Method := { name := "fitsK1", desc := "()Z", sig := { parameters := [], returnType := some .boolean }, accessFlags := 1, code := some k9c1 }
def k9c2 : Code := { maxStack := 2, maxLocals := 2, code := prog_41_method_7_code, exceptionTable := #[], attributes := #[] }
def k9m2 : Method := { name := "takesNorm", desc := "(Lcom/example/bare_ranker/bareranker/search/LengthNorm;)Z", sig := { parameters := [(.object "com/example/bare_ranker/bareranker/search/LengthNorm")], returnType := some .boolean }, accessFlags := 1, code := some k9c2 }
def k9c3 : Code := { maxStack := 2, maxLocals := 1, code := prog_41_method_8_code, exceptionTable := #[], attributes := #[] }
def k9m3 : Method := { name := "weighsFields", desc := "()Z", sig := { parameters := [], returnType := some .boolean }, accessFlags := 1, code := some k9c3 }
/-- com/example/bare_ranker/bareranker/search/Model -/
def k9 : Class := { plain "com/example/bare_ranker/bareranker/search/Model" (some 7) with
  accessFlags := 16433
  interfaces := #[]
  cf := some (fileOf pool9 1 #[] #[{ accessFlags := 1, nameIndex := 84, descriptorIndex := 85, attributes := #[] }, { accessFlags := 1, nameIndex := 87, descriptorIndex := 85, attributes := #[] }, { accessFlags := 1, nameIndex := 88, descriptorIndex := 89, attributes := #[] }, { accessFlags := 1, nameIndex := 90, descriptorIndex := 85, attributes := #[] }] 16433 29 #[] #[{ accessFlags := 16409, nameIndex := 5, descriptorIndex := 6, attributes := #[] }, { accessFlags := 16409, nameIndex := 9, descriptorIndex := 6, attributes := #[] }, { accessFlags := 16409, nameIndex := 12, descriptorIndex := 6, attributes := #[] }, { accessFlags := 16409, nameIndex := 15, descriptorIndex := 6, attributes := #[] }, { accessFlags := 16409, nameIndex := 18, descriptorIndex := 6, attributes := #[] }, { accessFlags := 18, nameIndex := 40, descriptorIndex := 41, attributes := #[] }, { accessFlags := 18, nameIndex := 44, descriptorIndex := 45, attributes := #[] }, { accessFlags := 4122, nameIndex := 21, descriptorIndex := 22, attributes := #[] }])
  fields := #[{ name := "BM25", type := (.object "com/example/bare_ranker/bareranker/search/Model"), accessFlags := 16409, slot := 0, constantValue := 0 }, { name := "BM25L", type := (.object "com/example/bare_ranker/bareranker/search/Model"), accessFlags := 16409, slot := 1, constantValue := 0 }, { name := "BM25_PLUS", type := (.object "com/example/bare_ranker/bareranker/search/Model"), accessFlags := 16409, slot := 2, constantValue := 0 }, { name := "BM25_ADPT", type := (.object "com/example/bare_ranker/bareranker/search/Model"), accessFlags := 16409, slot := 3, constantValue := 0 }, { name := "BM25F", type := (.object "com/example/bare_ranker/bareranker/search/Model"), accessFlags := 16409, slot := 4, constantValue := 0 }, { name := "label", type := (.object "java/lang/String"), accessFlags := 18, slot := 3, constantValue := 0 }, { name := "defaultDelta", type := .double, accessFlags := 18, slot := 4, constantValue := 0 }, { name := "$VALUES", type := (.array (.object "com/example/bare_ranker/bareranker/search/Model")), accessFlags := 4122, slot := 5, constantValue := 0 }]
  methods := #[k9m0, k9m1, k9m2, k9m3]
  instanceTypes := #[(.object "java/lang/String"), .int, .int, (.object "java/lang/String"), .double]
  staticTypes := #[(.object "com/example/bare_ranker/bareranker/search/Model"), (.object "com/example/bare_ranker/bareranker/search/Model"), (.object "com/example/bare_ranker/bareranker/search/Model"), (.object "com/example/bare_ranker/bareranker/search/Model"), (.object "com/example/bare_ranker/bareranker/search/Model"), (.array (.object "com/example/bare_ranker/bareranker/search/Model"))]
  resolved := Array.replicate 97 none
  statics := some 1 }

def pool10 : Array CpInfo := pool [(1, .class_ 2), (0, u "com/example/bare_ranker/bareranker/search/LengthNorm"), (0, .fieldref 1 4), (0, .nameAndType 5 6), (0, u "PIVOTED"), (0, u "Lcom/example/bare_ranker/bareranker/search/LengthNorm;"), (2, u "VERBOSENESS_AWARE"), (2, u "$VALUES"), (0, u "[Lcom/example/bare_ranker/bareranker/search/LengthNorm;"), (6, .class_ 22), (1, u "java/lang/Enum"), (8, u "label"), (0, u "Ljava/lang/String;"), (21, u "takesB"), (0, u "()Z")] 6

def k10c0 : Code := { maxStack := 2, maxLocals := 1, code := prog_40_method_5_code, exceptionTable := #[], attributes := #[] }
def k10m0 : Method := { name := "takesB", desc := "()Z", sig := { parameters := [], returnType := some .boolean }, accessFlags := 1, code := some k10c0 }
/-- com/example/bare_ranker/bareranker/search/LengthNorm -/
def k10 : Class := { plain "com/example/bare_ranker/bareranker/search/LengthNorm" (some 7) with
  accessFlags := 16433
  interfaces := #[]
  cf := some (fileOf pool10 1 #[] #[{ accessFlags := 1, nameIndex := 54, descriptorIndex := 55, attributes := #[] }] 16433 20 #[] #[{ accessFlags := 16409, nameIndex := 5, descriptorIndex := 6, attributes := #[] }, { accessFlags := 16409, nameIndex := 9, descriptorIndex := 6, attributes := #[] }, { accessFlags := 18, nameIndex := 31, descriptorIndex := 32, attributes := #[] }, { accessFlags := 4122, nameIndex := 12, descriptorIndex := 13, attributes := #[] }])
  fields := #[{ name := "PIVOTED", type := (.object "com/example/bare_ranker/bareranker/search/LengthNorm"), accessFlags := 16409, slot := 0, constantValue := 0 }, { name := "VERBOSENESS_AWARE", type := (.object "com/example/bare_ranker/bareranker/search/LengthNorm"), accessFlags := 16409, slot := 1, constantValue := 0 }, { name := "label", type := (.object "java/lang/String"), accessFlags := 18, slot := 3, constantValue := 0 }, { name := "$VALUES", type := (.array (.object "com/example/bare_ranker/bareranker/search/LengthNorm")), accessFlags := 4122, slot := 2, constantValue := 0 }]
  methods := #[k10m0]
  instanceTypes := #[(.object "java/lang/String"), .int, .int, (.object "java/lang/String")]
  staticTypes := #[(.object "com/example/bare_ranker/bareranker/search/LengthNorm"), (.object "com/example/bare_ranker/bareranker/search/LengthNorm"), (.array (.object "com/example/bare_ranker/bareranker/search/LengthNorm"))]
  resolved := Array.replicate 62 none
  statics := some 2 }

def pool11 : Array CpInfo := pool [(2, .class_ 4), (1, u "java/lang/Object"), (0, u "<init>"), (0, u "()V"), (35, .class_ 44), (1, u "java/util/Objects"), (0, u "requireNonNull"), (0, u "(Ljava/lang/Object;)Ljava/lang/Object;")] 137

def k11m0 : Method := { name := "<init>", desc := "()V", sig := { parameters := [], returnType := none }, accessFlags := 2, code := none }
def k11c1 : Code := { maxStack := 2, maxLocals := 1, code := jdk_31_method_10_code, exceptionTable := #[], attributes := #[] }
def k11m1 : Method := { name := "requireNonNull", desc := "(Ljava/lang/Object;)Ljava/lang/Object;", sig := { parameters := [(.object "java/lang/Object")], returnType := some (.object "java/lang/Object") }, accessFlags := 9, code := some k11c1 }
/-- java/util/Objects -/
def k11 : Class := { plain "java/util/Objects" (some 0) with
  accessFlags := 49
  interfaces := #[]
  cf := some (fileOf pool11 42 #[] #[{ accessFlags := 2, nameIndex := 5, descriptorIndex := 6, attributes := #[] }, { accessFlags := 9, nameIndex := 45, descriptorIndex := 46, attributes := #[] }] 49 2 #[] #[])
  fields := #[]
  methods := #[k11m0, k11m1]
  instanceTypes := #[]
  staticTypes := #[]
  resolved := Array.replicate 184 none
  statics := none }

def pool12 : Array CpInfo := pool [(1, u "java/lang/Cloneable"), (0, .class_ 1), (0, u "java/lang/Object"), (0, .class_ 3)] 3

/-- java/lang/Cloneable -/
def k12 : Class := { plain "java/lang/Cloneable" (some 0) with
  accessFlags := 1537
  interfaces := #[]
  cf := some (fileOf pool12 2 #[] #[] 1537 4 #[] #[])
  fields := #[]
  methods := #[]
  instanceTypes := #[]
  staticTypes := #[]
  resolved := Array.replicate 8 none
  statics := none }

/-- the primitive byte -/
def k13 : Class := { plain "byte" none with kind := .primitive 'B', accessFlags := 0x411 }
/-- [B -/
def k14 : Class := { plain "[B" (some 0) with kind := .array 13 .byte, interfaces := #[12, 6], accessFlags := 1041 }

/-- the primitive int -/
def k15 : Class := { plain "int" none with kind := .primitive 'I', accessFlags := 0x411 }
/-- [I -/
def k16 : Class := { plain "[I" (some 0) with kind := .array 15 .int, interfaces := #[12, 6], accessFlags := 1041 }

def heap : Heap := #[{ cls := 8, slots := #[.ref 9, .null, .null, .null, .null, .null], vm := .statics 8 },
  { cls := 9, slots := #[.ref 3, .ref 4, .ref 5, .ref 6, .ref 7, .null], vm := .statics 9 },
  { cls := 10, slots := #[.ref 8, .null, .null], vm := .statics 10 },
  { cls := 9, slots := #[.null, .int 0, .int 0, .null, .double 0], vm := .none },
  { cls := 9, slots := #[.null, .int 1, .int 0, .null, .double 0], vm := .none },
  { cls := 9, slots := #[.null, .int 2, .int 0, .null, .double 0], vm := .none },
  { cls := 9, slots := #[.null, .int 3, .int 0, .null, .double 0], vm := .none },
  { cls := 9, slots := #[.null, .int 4, .int 0, .null, .double 0], vm := .none },
  { cls := 10, slots := #[.null, .int 0, .int 0, .null], vm := .none },
  { cls := 8, slots := #[.null, .int 0, .int 0, .null], vm := .none }]
def classes : Array Class := #[k0, k1, k2, k3, k4, k5, k6, k7, k8, k9, k10, k11, k12, k13, k14, k15, k16]
def interned : List (Array UInt16 × Addr) := []
def slotsUsed : Nat := 48
def theMethod : MethodId := ⟨1, 2⟩
def args0 : Array Value := #[.int 3, .int 4, .int 5, .int 6, .int 7]
def aboutOver (below : List Frame) : State where
  vm := { classes := classes, interned := interned.toArray }
  heap := heap
  slotsUsed := slotsUsed
  threads := #[{ frames := .invoking theMethod args0 :: below }]
def below0 : List Frame := [.native { method := ⟨0, 0⟩, args := #[] }]
def about1 : State := aboutOver below0
def p0 : Program := .bare "" "" ""
def e0 : Env := launch0.env 0 0 0
theorem w_frames : about1.frames = Frame.invoking theMethod args0 :: below0 := rfl
set_option maxRecDepth 65536 in
theorem w_args : argsFit about1.vm theMethod args0 = true := by decide +kernel
set_option maxRecDepth 65536 in
theorem w_heap : heapFits about1 = true := by decide +kernel
set_option maxRecDepth 65536 in
theorem w_runnable : about1.curStatus? = some .runnable := by decide +kernel
set_option maxRecDepth 65536 in
theorem w_alone : about1.alone = true := by decide +kernel
set_option maxRecDepth 65536 in
theorem w_named : about1.methodNamed? x = some theMethod := by decide +kernel
set_option maxRecDepth 65536 in
theorem w_hears : about1.hears theMethod below0 = true := by decide +kernel
set_option maxRecDepth 65536 in
theorem w_ripe : about1.ripe theMethod args0 below0 = true := by decide +kernel
theorem w_running : about1.status = .running := rfl
set_option maxRecDepth 65536 in
theorem w_room : about1.hasRoom e0.platform room_1 = true :=
  launch0.hasRoom_least _ room_1 (by decide +kernel) (by decide +kernel) (by decide +kernel) (by decide +kernel) (by decide +kernel) (by decide +kernel)
theorem allAtoms_all (ts : List Jvm.Cond) (a : Array Jvm.Value) (st : Jvm.State) : (allAtoms ts).before a st = ts.all (fun c => c.before a st) := by
  induction ts with
  | nil => rfl
  | cons c t ih =>
    show (Jvm.Cond.and c (allAtoms t)).before a st = _
    rw [Jvm.Cond.before_and, ih, List.all_cons]
def words1 : List Jvm.Cond := Jvm.Cond.code x code maxLocals ret :: tables_1
/-- a 'code' word, met by the world's own term for the bytes: nothing is compared byte by byte -/
theorem code_word {y : MethodName} {bytes : ByteArray} {mx : Nat} {rt : Option FieldType} {a : Array Value} {s : State} {m : MethodId} {meth : Method} {c : Code} (h1 : s.methodNamed? y = some m) (h2 : s.vm.method? m = some meth) (h3 : meth.code = some c) (h4 : c.code = bytes)
    (h5 : (c.maxLocals == mx && c.exceptionTable.isEmpty && decide (c.maxStack ≤ mostOperands) && decide (meth.sig.returnType = rt) && !meth.locks && decide (parseMethodDescriptor y.desc = some meth.sig)) = true) : (Jvm.Cond.code y bytes mx rt).before a s = true := by
  simp only [Bool.and_eq_true, beq_iff_eq, Bool.not_eq_true', decide_eq_true_eq] at h5
  obtain ⟨⟨⟨⟨⟨g1, g2⟩, g3⟩, g4⟩, g5⟩, g6⟩ := h5
  simp [Cond.before, Cond.holds, Cond.value, h1, h2, h3, h4, g1, g2, g3, g4, g5, g6]
def isCode : Jvm.Cond → Bool
  | .code _ _ _ _ => true
  | _ => false
theorem all_split {L : List Jvm.Cond} {P : Jvm.Cond → Bool} (h1 : L.all (fun c => isCode c || P c) = true) (h2 : ∀ c ∈ L.filter isCode, P c = true) : L.all P = true := by
  refine List.all_eq_true.mpr fun c hc => ?_
  have h := List.all_eq_true.mp h1 c hc
  rcases Bool.eq_false_or_eq_true (isCode c) with hi | hi
  · exact h2 c (List.mem_filter.mpr ⟨hc, hi⟩)
  · simpa [hi] using h
set_option maxRecDepth 65536 in
theorem w_c0 : (Jvm.Cond.code x code maxLocals ret).before args0 about1 = true := code_word (m := ⟨1, 2⟩) (meth := k1m2) (c := k1c2) (by decide +kernel) rfl rfl rfl (by decide +kernel)
set_option maxRecDepth 65536 in
theorem w_c1 : (Jvm.Cond.code ({ cls := "java/lang/Math", name := "max", desc := "(II)I" } : Jvm.MethodName) jdk_29_method_65_code (2 : Nat) (Option.some Jvm.ClassFile.FieldType.int)).before args0 about1 = true := code_word (m := ⟨2, 1⟩) (meth := k2m1) (c := k2c1) (by decide +kernel) rfl rfl rfl (by decide +kernel)
set_option maxRecDepth 65536 in
theorem w_c2 : (Jvm.Cond.code ({ cls := "com/example/bare_ranker/bareranker/search/Bm25QueryWeightPinLaw", name := "make", desc := "(D)Lcom/example/bare_ranker/bareranker/search/Bm25;" } : Jvm.MethodName) method_2_code (2 : Nat) (Option.some (Jvm.ClassFile.FieldType.object "com/example/bare_ranker/bareranker/search/Bm25"))).before args0 about1 = true := code_word (m := ⟨1, 1⟩) (meth := k1m1) (c := k1c1) (by decide +kernel) rfl rfl rfl (by decide +kernel)
set_option maxRecDepth 65536 in
theorem w_c3 : (Jvm.Cond.code ({ cls := "com/example/bare_ranker/bareranker/search/Bm25", name := "<init>", desc := "(DDLcom/example/bare_ranker/bareranker/search/Idf;D)V" } : Jvm.MethodName) prog_32_method_2_code (8 : Nat) (Option.none : Option Jvm.ClassFile.FieldType)).before args0 about1 = true := code_word (m := ⟨3, 0⟩) (meth := k3m0) (c := k3c0) (by decide +kernel) rfl rfl rfl (by decide +kernel)
set_option maxRecDepth 65536 in
theorem w_c4 : (Jvm.Cond.code ({ cls := "com/example/bare_ranker/bareranker/search/Bm25", name := "<init>", desc := "(Lcom/example/bare_ranker/bareranker/search/Model;DDLcom/example/bare_ranker/bareranker/search/LengthNorm;Lcom/example/bare_ranker/bareranker/search/Idf;DD)V" } : Jvm.MethodName) prog_32_method_3_code (12 : Nat) (Option.none : Option Jvm.ClassFile.FieldType)).before args0 about1 = true := code_word (m := ⟨3, 1⟩) (meth := k3m1) (c := k3c1) (by decide +kernel) rfl rfl rfl (by decide +kernel)
set_option maxRecDepth 65536 in
theorem w_c5 : (Jvm.Cond.code ({ cls := "java/lang/Object", name := "<init>", desc := "()V" } : Jvm.MethodName) object_method_1_code (1 : Nat) (Option.none : Option Jvm.ClassFile.FieldType)).before args0 about1 = true := code_word (m := ⟨0, 0⟩) (meth := k0m0) (c := k0c0) (by decide +kernel) rfl rfl rfl (by decide +kernel)
set_option maxRecDepth 65536 in
theorem w_c6 : (Jvm.Cond.code ({ cls := "com/example/bare_ranker/bareranker/search/Model", name := "takesDelta", desc := "()Z" } : Jvm.MethodName) prog_41_method_5_code (1 : Nat) (Option.some Jvm.ClassFile.FieldType.boolean)).before args0 about1 = true := code_word (m := ⟨9, 0⟩) (meth := k9m0) (c := k9c0) (by decide +kernel) rfl rfl rfl (by decide +kernel)
set_option maxRecDepth 65536 in
theorem w_c7 : (Jvm.Cond.code ({ cls := "com/example/bare_ranker/bareranker/search/Model", name := "fitsK1", desc := "()Z" } : Jvm.MethodName) prog_41_method_6_code (1 : Nat) (Option.some Jvm.ClassFile.FieldType.boolean)).before args0 about1 = true := code_word (m := ⟨9, 1⟩) (meth := k9m1) (c := k9c1) (by decide +kernel) rfl rfl rfl (by decide +kernel)
set_option maxRecDepth 65536 in
theorem w_c8 : (Jvm.Cond.code ({ cls := "com/example/bare_ranker/bareranker/search/LengthNorm", name := "takesB", desc := "()Z" } : Jvm.MethodName) prog_40_method_5_code (1 : Nat) (Option.some Jvm.ClassFile.FieldType.boolean)).before args0 about1 = true := code_word (m := ⟨10, 0⟩) (meth := k10m0) (c := k10c0) (by decide +kernel) rfl rfl rfl (by decide +kernel)
set_option maxRecDepth 65536 in
theorem w_c9 : (Jvm.Cond.code ({ cls := "com/example/bare_ranker/bareranker/search/Model", name := "weighsFields", desc := "()Z" } : Jvm.MethodName) prog_41_method_8_code (1 : Nat) (Option.some Jvm.ClassFile.FieldType.boolean)).before args0 about1 = true := code_word (m := ⟨9, 3⟩) (meth := k9m3) (c := k9c3) (by decide +kernel) rfl rfl rfl (by decide +kernel)
set_option maxRecDepth 65536 in
theorem w_c10 : (Jvm.Cond.code ({ cls := "com/example/bare_ranker/bareranker/search/Model", name := "takesNorm", desc := "(Lcom/example/bare_ranker/bareranker/search/LengthNorm;)Z" } : Jvm.MethodName) prog_41_method_7_code (2 : Nat) (Option.some Jvm.ClassFile.FieldType.boolean)).before args0 about1 = true := code_word (m := ⟨9, 2⟩) (meth := k9m2) (c := k9c2) (by decide +kernel) rfl rfl rfl (by decide +kernel)
set_option maxRecDepth 65536 in
theorem w_c11 : (Jvm.Cond.code ({ cls := "java/util/Objects", name := "requireNonNull", desc := "(Ljava/lang/Object;)Ljava/lang/Object;" } : Jvm.MethodName) jdk_31_method_10_code (1 : Nat) (Option.some (Jvm.ClassFile.FieldType.object "java/lang/Object"))).before args0 about1 = true := code_word (m := ⟨11, 1⟩) (meth := k11m1) (c := k11c1) (by decide +kernel) rfl rfl rfl (by decide +kernel)
set_option maxRecDepth 65536 in
theorem w_c12 : (Jvm.Cond.code ({ cls := "com/example/bare_ranker/bareranker/search/Bm25", name := "queryWeight", desc := "(ID)D" } : Jvm.MethodName) prog_32_method_8_code (8 : Nat) (Option.some Jvm.ClassFile.FieldType.double)).before args0 about1 = true := code_word (m := ⟨3, 2⟩) (meth := k3m2) (c := k3c2) (by decide +kernel) rfl rfl rfl (by decide +kernel)
def codes1 : List Jvm.Cond := [Jvm.Cond.code x code maxLocals ret, Jvm.Cond.code ({ cls := "java/lang/Math", name := "max", desc := "(II)I" } : Jvm.MethodName) jdk_29_method_65_code (2 : Nat) (Option.some Jvm.ClassFile.FieldType.int), Jvm.Cond.code ({ cls := "com/example/bare_ranker/bareranker/search/Bm25QueryWeightPinLaw", name := "make", desc := "(D)Lcom/example/bare_ranker/bareranker/search/Bm25;" } : Jvm.MethodName) method_2_code (2 : Nat) (Option.some (Jvm.ClassFile.FieldType.object "com/example/bare_ranker/bareranker/search/Bm25")), Jvm.Cond.code ({ cls := "com/example/bare_ranker/bareranker/search/Bm25", name := "<init>", desc := "(DDLcom/example/bare_ranker/bareranker/search/Idf;D)V" } : Jvm.MethodName) prog_32_method_2_code (8 : Nat) (Option.none : Option Jvm.ClassFile.FieldType), Jvm.Cond.code ({ cls := "com/example/bare_ranker/bareranker/search/Bm25", name := "<init>", desc := "(Lcom/example/bare_ranker/bareranker/search/Model;DDLcom/example/bare_ranker/bareranker/search/LengthNorm;Lcom/example/bare_ranker/bareranker/search/Idf;DD)V" } : Jvm.MethodName) prog_32_method_3_code (12 : Nat) (Option.none : Option Jvm.ClassFile.FieldType), Jvm.Cond.code ({ cls := "java/lang/Object", name := "<init>", desc := "()V" } : Jvm.MethodName) object_method_1_code (1 : Nat) (Option.none : Option Jvm.ClassFile.FieldType), Jvm.Cond.code ({ cls := "com/example/bare_ranker/bareranker/search/Model", name := "takesDelta", desc := "()Z" } : Jvm.MethodName) prog_41_method_5_code (1 : Nat) (Option.some Jvm.ClassFile.FieldType.boolean), Jvm.Cond.code ({ cls := "com/example/bare_ranker/bareranker/search/Model", name := "fitsK1", desc := "()Z" } : Jvm.MethodName) prog_41_method_6_code (1 : Nat) (Option.some Jvm.ClassFile.FieldType.boolean), Jvm.Cond.code ({ cls := "com/example/bare_ranker/bareranker/search/LengthNorm", name := "takesB", desc := "()Z" } : Jvm.MethodName) prog_40_method_5_code (1 : Nat) (Option.some Jvm.ClassFile.FieldType.boolean), Jvm.Cond.code ({ cls := "com/example/bare_ranker/bareranker/search/Model", name := "weighsFields", desc := "()Z" } : Jvm.MethodName) prog_41_method_8_code (1 : Nat) (Option.some Jvm.ClassFile.FieldType.boolean), Jvm.Cond.code ({ cls := "com/example/bare_ranker/bareranker/search/Model", name := "takesNorm", desc := "(Lcom/example/bare_ranker/bareranker/search/LengthNorm;)Z" } : Jvm.MethodName) prog_41_method_7_code (2 : Nat) (Option.some Jvm.ClassFile.FieldType.boolean), Jvm.Cond.code ({ cls := "java/util/Objects", name := "requireNonNull", desc := "(Ljava/lang/Object;)Ljava/lang/Object;" } : Jvm.MethodName) jdk_31_method_10_code (1 : Nat) (Option.some (Jvm.ClassFile.FieldType.object "java/lang/Object")), Jvm.Cond.code ({ cls := "com/example/bare_ranker/bareranker/search/Bm25", name := "queryWeight", desc := "(ID)D" } : Jvm.MethodName) prog_32_method_8_code (8 : Nat) (Option.some Jvm.ClassFile.FieldType.double)]
set_option maxRecDepth 65536 in
theorem codes_eq : words1.filter isCode = codes1 := rfl
theorem w_codes : ∀ c ∈ words1.filter isCode, c.before args0 about1 = true := by
  rw [codes_eq]
  intro c hc
  simp only [codes1, List.mem_cons, List.not_mem_nil, or_false] at hc
  rcases hc with rfl | rfl | rfl | rfl | rfl | rfl | rfl | rfl | rfl | rfl | rfl | rfl | rfl
  · exact w_c0
  · exact w_c1
  · exact w_c2
  · exact w_c3
  · exact w_c4
  · exact w_c5
  · exact w_c6
  · exact w_c7
  · exact w_c8
  · exact w_c9
  · exact w_c10
  · exact w_c11
  · exact w_c12
set_option maxRecDepth 65536 in
theorem w_t1 : (words1.take 24).all (fun c => isCode c || c.before args0 about1) = true := by decide +kernel
set_option maxRecDepth 65536 in
theorem w_t2 : ((words1.drop 24).take 24).all (fun c => isCode c || c.before args0 about1) = true := by decide +kernel
set_option maxRecDepth 65536 in
theorem w_t3 : (((words1.drop 24).drop 24).take 24).all (fun c => isCode c || c.before args0 about1) = true := by decide +kernel
set_option maxRecDepth 65536 in
theorem w_t4 : ((((words1.drop 24).drop 24).drop 24).take 24).all (fun c => isCode c || c.before args0 about1) = true := by decide +kernel
set_option maxRecDepth 65536 in
theorem w_t5 : ((((words1.drop 24).drop 24).drop 24).drop 24).all (fun c => isCode c || c.before args0 about1) = true := by decide +kernel
theorem w_tables : (allAtoms (Jvm.Cond.code x code maxLocals ret :: tables_1)).before args0 about1 = true := by
  rw [allAtoms_all]
  show words1.all (fun c => c.before args0 about1) = true
  refine all_split ?_ w_codes
  rw [← List.take_append_drop 24 words1, List.all_append, w_t1, ← List.take_append_drop 24 (words1.drop 24), List.all_append, w_t2, ← List.take_append_drop 24 ((words1.drop 24).drop 24), List.all_append, w_t3, ← List.take_append_drop 24 (((words1.drop 24).drop 24).drop 24), List.all_append, w_t4, w_t5]
  rfl
set_option maxRecDepth 65536 in
theorem w_case : (Jvm.Cond.and given_1 narrow_1).before args0 about1 = true := by decide +kernel
theorem w_applies : (headSpec (Jvm.Cond.code x code maxLocals ret :: tables_1) room_1).applies x e0.platform about1 = true :=
  (Spec.applies_iff w_frames).mpr ⟨w_running, w_runnable, w_alone, w_named, w_hears, w_ripe, w_room, w_tables⟩
theorem atStart : AtStart classFile x code maxLocals ret World_1 tables_1 room_1 Calls_1 rest_1 Pre_1 launch0 p0 e0 about1 theMethod args0 below0 :=
  ⟨lists_1, trivial, launch0.admits_env _ _ _, launch0.least_env, fairChoices_fair.cas, fairChoices_fair.clock, w_frames, w_args, w_heap, w_applies, trivial, trivial, w_case⟩
end start1
theorem witness_1 : WitnessClaimed_1 := ⟨start1.p0, start1.e0, start1.about1, start1.theMethod, start1.args0, start1.below0, start1.atStart⟩
end Jvm.Pilot.@@N@@
