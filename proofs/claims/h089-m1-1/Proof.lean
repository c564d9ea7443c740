import JvmDerived
import JvmDerived.Pilot.@@N@@Statement
import JvmDerived.Pilot.@@N@@Code
set_option linter.unusedVariables false
set_option linter.unusedSimpArgs false

namespace Jvm.Pilot.@@N@@
section Floats
open Jvm.FP.Core
/-- a is finite, not below nought (no -0.0 either), and its value is z / 2^1074 -/
def NN (a : UInt64) (z : Nat) : Prop := ∃ c q, val64 a = .fin false c q ∧ c * 2 ^ (q + 1074).toNat = z
theorem own_one : one64 = 2 ^ 1074 := rfl
theorem own_onei : (one64 : Int) = ((2 ^ 1074 : Nat) : Int) := rfl
theorem own_fit {a : UInt64} {s : Bool} {c : Nat} {q : Int} (h : val64 a = .fin s c q) : c < 2 ^ 53 ∧ -1074 ≤ q ∧ q ≤ 971 ∧ Jvm.FP.Core.fits b64 (.fin s c q) := by
  have hf := val64_fits a
  rw [h] at hf
  have h1 : c < 2 ^ 53 := hf.1
  have h2 : b64.qmin ≤ q := hf.2.1
  have h3 : q ≤ b64.qmax := hf.2.2.1
  rw [qmin_b64] at h2
  have h4 : b64.qmax = 971 := by decide +kernel
  rw [h4] at h3
  exact ⟨h1, h2, h3, hf⟩
theorem own_inU (c : Nat) (q : Int) : inUnits c q b64.qmin = c * 2 ^ (q + 1074).toNat := by
  unfold inUnits; rw [qmin_b64, show q - -1074 = q + 1074 by omega]
theorem NN.ne {a : UInt64} {z : Nat} (h : NN a z) : val64 a ≠ .nan := by
  obtain ⟨c, q, h1, -⟩ := h; rw [h1]; exact fun k => by cases k
theorem NN.fin {a : UInt64} {z : Nat} (h : NN a z) : DFin a := by
  obtain ⟨c, q, h1, -⟩ := h; exact ⟨_, _, _, h1⟩
theorem NN.zmag {a : UInt64} {z : Nat} (h : NN a z) : zmag b64 (val64 a) = z := by
  obtain ⟨c, q, h1, h2⟩ := h; rw [h1]; show inUnits c q b64.qmin = z; rw [own_inU, h2]
theorem NN.sgn {a : UInt64} {z : Nat} (h : NN a z) : sgn (val64 a) = false := by
  obtain ⟨c, q, h1, h2⟩ := h; rw [h1]; rfl
theorem NN.zval {a : UInt64} {z : Nat} (h : NN a z) : zval b64 (val64 a) = (z : Int) := by
  unfold Jvm.FP.Core.zval; rw [h.sgn, h.zmag]; rfl
theorem NN.of {a : UInt64} (h1 : DFin a) (h2 : Jvm.FP.Core.sgn (val64 a) = false) : NN a (Jvm.FP.Core.zmag b64 (val64 a)) := by
  obtain ⟨s, c, q, h⟩ := h1
  rw [h] at h2 ⊢
  have h3 : s = false := h2
  subst h3
  exact ⟨c, q, h, (own_inU c q).symm⟩
theorem NN.cmp {a b : UInt64} {x y : Nat} (ha : NN a x) (hb : NN b y) : Jvm.FP.dcmp a b = some (compare (x : Int) (y : Int)) := by
  show Jvm.FP.Core.dcmp a b = _
  rw [dcmp_zval ha.ne hb.ne, ha.zval, hb.zval]
theorem NN.lt {a b : UInt64} {x y : Nat} (ha : NN a x) (hb : NN b y) (h : x < y) : Jvm.FP.dcmp a b = some .lt := by
  rw [ha.cmp hb, (compare_lt_iff _ _).mpr (by omega)]
theorem NN.gt {a b : UInt64} {x y : Nat} (ha : NN a x) (hb : NN b y) (h : y < x) : Jvm.FP.dcmp a b = some .gt := by
  rw [ha.cmp hb, (compare_gt_iff _ _).mpr (by omega)]
theorem NN.eq {a b : UInt64} {x y : Nat} (ha : NN a x) (hb : NN b y) (h : x = y) : Jvm.FP.dcmp a b = some .eq := by
  rw [ha.cmp hb, (compare_eq_iff _ _).mpr (by omega)]
/-- every c * 2^(k - 1074) of 53 digits is a double -/
theorem own_rep {c k : Nat} (hc : c < 2 ^ 53) (hk : k ≤ 2045) : ∃ V, NN V (c * 2 ^ k) := by
  obtain ⟨c', q', h1, h2⟩ := round_exact good_b64 false (c := c) (q := (k : Int) - 1074) hc (by rw [qmin_b64]; omega) (by rw [show b64.qmax = 971 by decide +kernel]; omega)
  refine ⟨of64 (round b64 (.fin false c ((k : Int) - 1074))), c', q', ?_, ?_⟩
  · rw [val64_of64 (round_fits good_b64 _), h1]
  · rw [own_inU, own_inU] at h2
    rw [h2, show ((k : Int) - 1074 + 1074).toNat = k by omega]
/-- a whole number that is a double -/
theorem own_nat {n : Nat} (hn : n < 2 ^ 53) : ∃ V, NN V (n * 2 ^ 1074) := own_rep hn (by omega)
theorem own_zlt {s : Bool} {c : Nat} {q : Int} (h : Jvm.FP.Core.fits b64 (.fin s c q)) : Jvm.FP.Core.zmag b64 (.fin s c q) < b64.tails * 2 ^ (b64.exps - 2) := zmag_lt_top good_b64 h
/-- a rounding that is not above a finite double is finite -/
theorem own_fin_of_le {d V : Datum} (hd : d ≠ .nan) (hV : Jvm.FP.Core.fits b64 V) (hf : ∃ s c q, V = .fin s c q) (h : Jvm.FP.Core.zmag b64 d ≤ Jvm.FP.Core.zmag b64 V) : ∃ s c q, d = .fin s c q := by
  obtain ⟨s, c, q, rfl⟩ := hf
  have h1 := own_zlt hV
  cases d with
  | nan => exact absurd rfl hd
  | inf t =>
    have h2 : Jvm.FP.Core.zmag b64 (.inf t) = b64.tails * 2 ^ (b64.exps - 2) := rfl
    rw [h2] at h
    exact absurd (Nat.lt_of_le_of_lt h h1) (Nat.lt_irrefl _)
  | fin t c' q' => exact ⟨_, _, _, rfl⟩
theorem NN.vf {a : UInt64} {z : Nat} (h : NN a z) : ∃ s c q, val64 a = .fin s c q := h.fin
/-- the quotient of two doubles: nothing lies between it and the exact one -/
theorem own_ddiv {a b B : UInt64} {x y w : Nat} (ha : NN a x) (hb : NN b y) (hy : 0 < y) (hB : NN B w) (hle : x * 2 ^ 1074 ≤ w * y) :
    ∃ z, NN (Jvm.FP.ddiv a b) z ∧ (∀ V v, NN V v → x * 2 ^ 1074 ≤ v * y → z ≤ v) ∧ (∀ V v, NN V v → v * y ≤ x * 2 ^ 1074 → v ≤ z) := by
  have hbz := hb.zmag
  obtain ⟨c, q, h1, h2⟩ := ha
  obtain ⟨d, r, h3, h4⟩ := hb
  obtain ⟨-, q1, q2, -⟩ := own_fit h1
  obtain ⟨-, r1, r2, -⟩ := own_fit h3
  have hd : d ≠ 0 := by rintro rfl; rw [Nat.zero_mul] at h4; omega
  have hv : val64 (Jvm.FP.Core.ddiv a b) = roundRatio b64 false c d (q - r) := by
    rw [val64_ddiv, h1, h3]; show (if d = 0 then _ else _) = _; rw [if_neg hd]; rfl
  have e1 : inUnits c (q - r) (b64.qmin - (r + 1074)) = x * 2 ^ 1074 := by
    unfold inUnits
    rw [qmin_b64, ← h2, show (q - r - (-1074 - (r + 1074))).toNat = (q + 1074).toNat + 1074 by omega, Nat.pow_add, Nat.mul_assoc]
  have e2 : ∀ v : Nat, v * 2 ^ (b64.qmin - (b64.qmin - (r + 1074))).toNat * d = v * y := by
    intro v
    rw [show b64.qmin - (b64.qmin - (r + 1074)) = r + 1074 by omega, ← h4, Nat.mul_assoc, Nat.mul_comm (2 ^ _) d]
  have le : ∀ V v, NN V v → x * 2 ^ 1074 ≤ v * y → Jvm.FP.Core.zmag b64 (roundRatio b64 false c d (q - r)) ≤ v := by
    intro V v hV h
    have k := zmag_roundRatio_le good_b64 (s := false) (A := c) (B := d) (e := q - r) (e0 := b64.qmin - (r + 1074)) (V := val64 V) (by omega) (val64_fits V) hV.ne (by omega) (by rw [qmin_b64]; omega) (by rw [e1, e2, hV.zmag]; exact h)
    rw [hV.zmag] at k; exact k
  have ge : ∀ V v, NN V v → v * y ≤ x * 2 ^ 1074 → v ≤ Jvm.FP.Core.zmag b64 (roundRatio b64 false c d (q - r)) := by
    intro V v hV h
    have k := zmag_roundRatio_ge good_b64 (s := false) (A := c) (B := d) (e := q - r) (e0 := b64.qmin - (r + 1074)) (V := val64 V) (by omega) (val64_fits V) (by omega) (by rw [qmin_b64]; omega) (by rw [e1, e2, hV.zmag]; exact h)
    rw [hV.zmag] at k; exact k
  have fin : DFin (Jvm.FP.Core.ddiv a b) := by
    refine own_fin_of_le (V := val64 B) ?_ (val64_fits B) hB.vf ?_
    · rw [hv]; exact roundRatio_ne_nan _ _ _ _ _
    · rw [hv, hB.zmag]; exact le B w hB hle
  have sg : Jvm.FP.Core.sgn (val64 (Jvm.FP.Core.ddiv a b)) = false := by rw [hv]; exact sgn_roundRatio _ _ _ _ _
  refine ⟨_, NN.of fin sg, ?_, ?_⟩
  · intro V v hV h; rw [hv]; exact le V v hV h
  · intro V v hV h; rw [hv]; exact ge V v hV h
/-- the product likewise -/
theorem own_dmul {a b B : UInt64} {x y w : Nat} (ha : NN a x) (hb : NN b y) (hB : NN B w) (hle : x * y ≤ w * 2 ^ 1074) :
    ∃ z, NN (Jvm.FP.dmul a b) z ∧ (∀ V v, NN V v → x * y ≤ v * 2 ^ 1074 → z ≤ v) ∧ (∀ V v, NN V v → v * 2 ^ 1074 ≤ x * y → v ≤ z) := by
  have haz := ha.zmag
  have hbz := hb.zmag
  obtain ⟨c, q, h1, h2⟩ := ha
  obtain ⟨d, r, h3, h4⟩ := hb
  obtain ⟨-, q1, q2, f1⟩ := own_fit h1
  obtain ⟨-, r1, r2, f2⟩ := own_fit h3
  obtain ⟨p1, p2, p3⟩ := product_units f1 f2
  rw [h1] at haz
  rw [h3] at hbz
  rw [haz, hbz] at p3
  have hv : val64 (Jvm.FP.Core.dmul a b) = roundRatio b64 false (c * d) 1 (q + r) := by
    rw [val64_dmul, h1, h3, p1]; rfl
  have e2 : ∀ v : Nat, v * 2 ^ (b64.qmin - 2 * b64.qmin).toNat * 1 = v * 2 ^ 1074 := by
    intro v
    rw [qmin_b64, Nat.mul_one]; rfl
  have le : ∀ V v, NN V v → x * y ≤ v * 2 ^ 1074 → Jvm.FP.Core.zmag b64 (roundRatio b64 false (c * d) 1 (q + r)) ≤ v := by
    intro V v hV h
    have k := zmag_roundRatio_le good_b64 (s := false) (A := c * d) (B := 1) (e := q + r) (e0 := 2 * b64.qmin) (V := val64 V) (by omega) (val64_fits V) hV.ne (by rw [qmin_b64]; omega) p2 (by rw [p3, e2, hV.zmag]; exact h)
    rw [hV.zmag] at k; exact k
  have ge : ∀ V v, NN V v → v * 2 ^ 1074 ≤ x * y → v ≤ Jvm.FP.Core.zmag b64 (roundRatio b64 false (c * d) 1 (q + r)) := by
    intro V v hV h
    have k := zmag_roundRatio_ge good_b64 (s := false) (A := c * d) (B := 1) (e := q + r) (e0 := 2 * b64.qmin) (V := val64 V) (by omega) (val64_fits V) (by rw [qmin_b64]; omega) p2 (by rw [p3, e2, hV.zmag]; exact h)
    rw [hV.zmag] at k; exact k
  have fin : DFin (Jvm.FP.Core.dmul a b) := by
    refine own_fin_of_le (V := val64 B) ?_ (val64_fits B) hB.vf ?_
    · rw [hv]; exact roundRatio_ne_nan _ _ _ _ _
    · rw [hv, hB.zmag]; exact le B w hB hle
  have sg : Jvm.FP.Core.sgn (val64 (Jvm.FP.Core.dmul a b)) = false := by rw [hv]; exact sgn_roundRatio _ _ _ _ _
  refine ⟨_, NN.of fin sg, ?_, ?_⟩
  · intro V v hV h; rw [hv]; exact le V v hV h
  · intro V v hV h; rw [hv]; exact ge V v hV h
/-- whole numbers up to 2^53 -/
theorem own_l2d {n : Int64} {k : Nat} (h : n.toInt = k) (hk : k ≤ 2 ^ 53) : NN (Jvm.FP.l2d n) (k * 2 ^ 1074) := by
  have h1 : DInt n.toInt (Jvm.FP.Core.l2d n) := l2d_int (by rw [h]; exact hk)
  have h2 := DInt_zval h1
  obtain ⟨c, q, h3⟩ := l2d_shape n
  have h4 : decide (n.toInt < 0) = false := by rw [h]; simp
  rw [h4] at h3
  refine ⟨c, q, h3, ?_⟩
  rw [h3, h] at h2
  have h5 : Jvm.FP.Core.zval b64 (.fin false c q) = ((inUnits c q b64.qmin : Nat) : Int) := rfl
  rw [h5, own_inU, own_onei] at h2
  exact Int.ofNat.inj (by rw [Int.ofNat_eq_natCast, Int.ofNat_eq_natCast, h2]; exact (Int.natCast_mul _ _).symm)
theorem own_i2d {n : Int32} {k : Nat} (h : n.toInt = k) : NN (Jvm.FP.i2d n) (k * 2 ^ 1074) := by
  have e : Jvm.FP.i2d n = Jvm.FP.l2d n.toInt64 := i2d_l2d n
  rw [e]
  have := n.toInt_lt
  exact own_l2d (by rw [Int32.toInt_toInt64, h]) (by omega)
theorem NN.noNaN {a : UInt64} {z : Nat} (h : NN a z) : Jvm.Free.Fl.NoNaN64 a := by
  rw [Jvm.Free.Fl.noNaN64_iff]
  exact (ne_nan a).mp h.ne
theorem NN.inj {a : UInt64} {x y : Nat} (h : NN a x) (k : NN a y) : x = y := h.zmag.symm.trans k.zmag
end Floats

end Jvm.Pilot.@@N@@
namespace Jvm.Pilot.@@N@@
open Jvm Jvm.ClassFile Sem Op Lib Jvm.Free Jvm.Stand Jvm.LawKit Jvm.RoadKit Bundle Jvm.Pilot.@@N@@.Jvm.D
/-- the run comes from the state A to an end of which P holds -/
def Ends (p : Program) (e : Env) (below : List Frame) (P : State → Outcome → Prop) (A : State) : Prop := ∃ t o, Steps p.tables e below A t ∧ t.status = .running ∧ Ended t below o ∧ P t o
theorem Ends.pre {p : Program} {e : Env} {below : List Frame} {P : State → Outcome → Prop} {A B : State} (h : ∀ t, Steps p.tables e below B t → Steps p.tables e below A t) (k : Ends p e below P B) : Ends p e below P A := by
  obtain ⟨t, o, h1, h2⟩ := k
  exact ⟨t, o, h t h1, h2⟩
theorem own_sta_keep0 {Z : State} {h h' : Heap} {C n d : String} {v : Value} (F : Sta Z h C n d v) (K : Keep h h' []) : Sta Z h' C n d v := by
  obtain ⟨cf, i, k, f, st, cell, h1, h2, h3, h4, h5, h6, h7⟩ := F
  exact ⟨cf, i, k, f, st, cell, h1, h2, h3, h4, K.2.1 _ _ h5 nin0, h6, h7⟩
theorem own_sta_keep1 {Z : State} {h h' : Heap} {C n d : String} {v : Value} {b : Addr} {C' : String} (F : Sta Z h C n d v) (K : Keep h h' [b]) (E : Exa Z h b C') : Sta Z h' C n d v := by
  obtain ⟨cf, i, k, f, st, cell, h1, h2, h3, h4, h5, h6, h7⟩ := F
  obtain ⟨c2, k2, g1, g2, g3, g4, g5⟩ := E
  have ne : st ≠ b := fun q => by subst q; cases h5.symm.trans g1; rw [h6] at g4; cases g4
  exact ⟨cf, i, k, f, st, cell, h1, h2, h3, h4, K.2.1 _ _ h5 (ninS ne nin0), h6, h7⟩

def own_load (a : Int64) (n : Int32) : UInt64 := if n = 0 then (13830554455654793216 : UInt64) else FP.ddiv (FP.l2d a) (FP.i2d n)
theorem own_divnn {a : Int64} {b : Int32} (h : ¬ b = 0) : Jvm.Free.Fl.NoNaN64 (FP.ddiv (FP.l2d a) (FP.i2d b)) := Jvm.Free.Fl.ddiv_out (Jvm.Free.Fl.l2d_fin a).noNaN (Jvm.Free.Fl.i2d_fin b) (Jvm.Free.Fl.i2d_nz h)
theorem own_two_nn : NN (4611686018427387904 : UInt64) (2 * 2 ^ 1074) := by
  refine ⟨2 ^ 52, -51, by decide +kernel, ?_⟩
  rw [show ((-51 : Int) + 1074).toNat = 1023 from rfl, ← Nat.pow_succ', ← Nat.pow_add]
/-- twice a double is exact -/
theorem own_twice {a : UInt64} {z : Nat} (h : NN a z) (hz : z ≤ 2 ^ 1974) : NN (FP.dmul (4611686018427387904 : UInt64) a) (2 * z) := by
  have h' := h
  obtain ⟨c, q, h1, h2⟩ := h'
  obtain ⟨c1, q1, q2, -⟩ := own_fit h1
  obtain ⟨V, v⟩ : ∃ V, NN V (2 * z) := by
    rcases Nat.lt_or_ge ((q + 1074).toNat + 1) 2046 with g | g
    · obtain ⟨V, v⟩ := own_rep (c := c) (k := (q + 1074).toNat + 1) c1 (by omega)
      refine ⟨V, ?_⟩
      rw [← h2]
      have e : 2 * (c * 2 ^ (q + 1074).toNat) = c * 2 ^ ((q + 1074).toNat + 1) := by rw [Nat.pow_succ]; (try generalize (2 : Nat) ^ 1074 = A1); (try generalize (2 : Nat) ^ 1073 = A2); (try generalize (2 : Nat) ^ 1042 = A3); (try generalize (2 : Nat) ^ 2045 = A4); (try generalize (2 : Nat) ^ (0 - (-2148) : Int).toNat = A5); ac_rfl
      rw [e]; exact v
    · -- then c is nought
      have hc : c = 0 := by
        rcases Nat.eq_zero_or_pos c with k | k
        · exact k
        · have g1 : 2 ^ 2045 ≤ 2 ^ (q + 1074).toNat := Nat.pow_le_pow_right (by omega) (by omega)
          have g2 : (2 : Nat) ^ 1974 < 2 ^ 2045 := Nat.pow_lt_pow_right (by omega) (by omega)
          have g3 : 1 * 2 ^ (q + 1074).toNat ≤ c * 2 ^ (q + 1074).toNat := Nat.mul_le_mul_right _ k
          rw [Nat.one_mul, h2] at g3
          exact absurd (Nat.lt_of_lt_of_le g2 (Nat.le_trans g1 g3)) (Nat.not_lt.mpr hz)
      rw [hc, Nat.zero_mul] at h2
      obtain ⟨V, v⟩ := own_rep (c := 0) (k := 0) (by omega) (by omega)
      exact ⟨V, by rw [← h2]; exact v⟩
  have e : 2 * 2 ^ 1074 * z = 2 * z * 2 ^ 1074 := by (try generalize (2 : Nat) ^ 1074 = A1); (try generalize (2 : Nat) ^ 1073 = A2); (try generalize (2 : Nat) ^ 1042 = A3); (try generalize (2 : Nat) ^ 2045 = A4); (try generalize (2 : Nat) ^ (0 - (-2148) : Int).toNat = A5); ac_rfl
  obtain ⟨y, hy, le, ge⟩ := own_dmul own_two_nn h v (Nat.le_of_eq e)
  have h3 := le V _ v (Nat.le_of_eq e)
  have h4 := ge V _ v (Nat.le_of_eq e.symm)
  rw [← Nat.le_antisymm h3 h4]; exact hy
theorem own_z {a : Int64} {nn : Int32} {k n r : Nat} (hk : k < 2 ^ 20) (hn : 2 ≤ n) (hn2 : n < 2 ^ 31) (hr : r < n) (ha : a.toInt = ((k * n + r : Nat) : Int)) (hnn : nn.toInt = n) :
    ∃ z, NN (FP.ddiv (FP.l2d a) (FP.i2d nn)) z ∧ z ≤ 2 ^ 1974 ∧ (r = 0 → z = k * 2 ^ 1074) ∧ (0 < r → k * 2 ^ 1074 < z ∧ z < (k + 1) * 2 ^ 1074)
      ∧ (2 * r < n → 2 * z < (2 * k + 1) * 2 ^ 1074) ∧ (2 * r = n → 2 * z = (2 * k + 1) * 2 ^ 1074) ∧ (n < 2 * r → (2 * k + 1) * 2 ^ 1074 < 2 * z) := by
  have hkn : k * n ≤ 2 ^ 20 * n := Nat.mul_le_mul_right _ (by omega)
  have hx := own_l2d ha (by omega)
  have hy := own_i2d hnn
  have hyp : 0 < n * 2 ^ 1074 := Nat.mul_pos (by omega) (Nat.two_pow_pos _)
  obtain ⟨B, hB⟩ := own_rep (c := (k + 1) * 2 ^ 32) (k := 1042) (by omega) (by omega)
  have e32 : (2 : Nat) ^ 1074 = 2 ^ 32 * 2 ^ 1042 := by rw [← Nat.pow_add]
  have cu : ∀ c : Nat, (k * n + r) * 2 ^ 32 ≤ c * n → (k * n + r) * 2 ^ 1074 * 2 ^ 1074 ≤ c * 2 ^ 1042 * (n * 2 ^ 1074) := by
    intro c q
    calc (k * n + r) * 2 ^ 1074 * 2 ^ 1074 = (k * n + r) * 2 ^ 32 * (2 ^ 1042 * 2 ^ 1074) := by rw [e32]; (try generalize (2 : Nat) ^ 1074 = A1); (try generalize (2 : Nat) ^ 1073 = A2); (try generalize (2 : Nat) ^ 1042 = A3); (try generalize (2 : Nat) ^ 2045 = A4); (try generalize (2 : Nat) ^ (0 - (-2148) : Int).toNat = A5); ac_rfl
      _ ≤ c * n * (2 ^ 1042 * 2 ^ 1074) := Nat.mul_le_mul_right _ q
      _ = c * 2 ^ 1042 * (n * 2 ^ 1074) := by (try generalize (2 : Nat) ^ 1074 = A1); (try generalize (2 : Nat) ^ 1073 = A2); (try generalize (2 : Nat) ^ 1042 = A3); (try generalize (2 : Nat) ^ 2045 = A4); (try generalize (2 : Nat) ^ (0 - (-2148) : Int).toNat = A5); ac_rfl
  have cd : ∀ c : Nat, c * n ≤ (k * n + r) * 2 ^ 32 → c * 2 ^ 1042 * (n * 2 ^ 1074) ≤ (k * n + r) * 2 ^ 1074 * 2 ^ 1074 := by
    intro c q
    calc c * 2 ^ 1042 * (n * 2 ^ 1074) = c * n * (2 ^ 1042 * 2 ^ 1074) := by (try generalize (2 : Nat) ^ 1074 = A1); (try generalize (2 : Nat) ^ 1073 = A2); (try generalize (2 : Nat) ^ 1042 = A3); (try generalize (2 : Nat) ^ 2045 = A4); (try generalize (2 : Nat) ^ (0 - (-2148) : Int).toNat = A5); ac_rfl
      _ ≤ (k * n + r) * 2 ^ 32 * (2 ^ 1042 * 2 ^ 1074) := Nat.mul_le_mul_right _ q
      _ = (k * n + r) * 2 ^ 1074 * 2 ^ 1074 := by rw [e32]; (try generalize (2 : Nat) ^ 1074 = A1); (try generalize (2 : Nat) ^ 1073 = A2); (try generalize (2 : Nat) ^ 1042 = A3); (try generalize (2 : Nat) ^ 2045 = A4); (try generalize (2 : Nat) ^ (0 - (-2148) : Int).toNat = A5); ac_rfl
  have eB : (k + 1) * 2 ^ 32 * n = 2 ^ 32 * (k * n) + 2 ^ 32 * n := by rw [Nat.add_mul, Nat.add_mul, Nat.one_mul]; (try generalize (2 : Nat) ^ 1074 = A1); (try generalize (2 : Nat) ^ 1073 = A2); (try generalize (2 : Nat) ^ 1042 = A3); (try generalize (2 : Nat) ^ 2045 = A4); (try generalize (2 : Nat) ^ (0 - (-2148) : Int).toNat = A5); ac_rfl
  obtain ⟨z, hz, le, ge⟩ := own_ddiv hx hy hyp hB (cu _ (by rw [eB, Nat.add_mul]; omega))
  have up : ∀ c : Nat, c < 2 ^ 53 → (k * n + r) * 2 ^ 32 ≤ c * n → z ≤ c * 2 ^ 1042 := by
    intro c hc q
    obtain ⟨V, v⟩ := own_rep (c := c) (k := 1042) hc (by omega)
    exact le V _ v (cu c q)
  have dn : ∀ c : Nat, c < 2 ^ 53 → c * n ≤ (k * n + r) * 2 ^ 32 → c * 2 ^ 1042 ≤ z := by
    intro c hc q
    obtain ⟨V, v⟩ := own_rep (c := c) (k := 1042) hc (by omega)
    exact ge V _ v (cd c q)
  have uB := up ((k + 1) * 2 ^ 32) (by omega) (by rw [eB, Nat.add_mul]; omega)
  have hbig : z ≤ 2 ^ 1974 := by
    have g1 : (k + 1) * 2 ^ 32 * 2 ^ 1042 ≤ 2 ^ 53 * 2 ^ 1042 := Nat.mul_le_mul_right _ (by omega)
    have g2 : (2 : Nat) ^ 53 * 2 ^ 1042 ≤ 2 ^ 1974 := by rw [← Nat.pow_add]; exact Nat.pow_le_pow_right (by omega) (by omega)
    exact Nat.le_trans uB (Nat.le_trans g1 g2)
  have hP : 0 < (2 : Nat) ^ 1042 := Nat.two_pow_pos _
  refine ⟨z, hz, hbig, ?_⟩
  rw [e32]
  have u0 := up (k * 2 ^ 32) (by omega)
  have d0 := dn (k * 2 ^ 32) (by omega)
  have d1 := dn (k * 2 ^ 32 + 1) (by omega)
  have u1 := up ((k + 1) * 2 ^ 32 - 1) (by omega)
  have u2 := up ((2 * k + 1) * 2 ^ 31 - 1) (by omega)
  have u3 := up ((2 * k + 1) * 2 ^ 31) (by omega)
  have d3 := dn ((2 * k + 1) * 2 ^ 31) (by omega)
  have d4 := dn ((2 * k + 1) * 2 ^ 31 + 1) (by omega)
  have f0 : k * 2 ^ 32 * n = 2 ^ 32 * (k * n) := by (try generalize (2 : Nat) ^ 1074 = A1); (try generalize (2 : Nat) ^ 1073 = A2); (try generalize (2 : Nat) ^ 1042 = A3); (try generalize (2 : Nat) ^ 2045 = A4); (try generalize (2 : Nat) ^ (0 - (-2148) : Int).toNat = A5); ac_rfl
  have f1 : (k * 2 ^ 32 + 1) * n = 2 ^ 32 * (k * n) + n := by rw [Nat.add_mul, Nat.one_mul, f0]
  have f2 : ((k + 1) * 2 ^ 32 - 1) * n = 2 ^ 32 * (k * n) + 2 ^ 32 * n - n := by rw [Nat.sub_mul, Nat.one_mul, eB]
  have f3 : (2 * k + 1) * 2 ^ 31 * n = 2 ^ 32 * (k * n) + 2 ^ 31 * n := by
    rw [Nat.add_mul, Nat.add_mul, Nat.one_mul, show 2 * k * 2 ^ 31 * n = (2 * 2 ^ 31) * (k * n) by (try generalize (2 : Nat) ^ 1074 = A1); (try generalize (2 : Nat) ^ 1073 = A2); (try generalize (2 : Nat) ^ 1042 = A3); (try generalize (2 : Nat) ^ 2045 = A4); (try generalize (2 : Nat) ^ (0 - (-2148) : Int).toNat = A5); ac_rfl]
  have f4 : ((2 * k + 1) * 2 ^ 31 - 1) * n = 2 ^ 32 * (k * n) + 2 ^ 31 * n - n := by rw [Nat.sub_mul, Nat.one_mul, f3]
  have f5 : ((2 * k + 1) * 2 ^ 31 + 1) * n = 2 ^ 32 * (k * n) + 2 ^ 31 * n + n := by rw [Nat.add_mul ((2 * k + 1) * 2 ^ 31), Nat.one_mul, f3]
  have fa : (k * n + r) * 2 ^ 32 = 2 ^ 32 * (k * n) + 2 ^ 32 * r := by rw [Nat.add_mul]; (try generalize (2 : Nat) ^ 1074 = A1); (try generalize (2 : Nat) ^ 1073 = A2); (try generalize (2 : Nat) ^ 1042 = A3); (try generalize (2 : Nat) ^ 2045 = A4); (try generalize (2 : Nat) ^ (0 - (-2148) : Int).toNat = A5); ac_rfl
  rw [f0, fa] at u0 d0
  rw [f1, fa] at d1
  rw [f2, fa] at u1
  rw [f4, fa] at u2
  rw [f3, fa] at u3 d3
  rw [f5, fa] at d4
  generalize k * n = A at *
  have g0 : k * (2 ^ 32 * 2 ^ 1042) = k * 2 ^ 32 * 2 ^ 1042 := (Nat.mul_assoc _ _ _).symm
  have g1 : (k + 1) * (2 ^ 32 * 2 ^ 1042) = k * 2 ^ 32 * 2 ^ 1042 + 2 ^ 32 * 2 ^ 1042 := by rw [Nat.add_mul, Nat.one_mul, g0]
  have g2 : (2 * k + 1) * (2 ^ 32 * 2 ^ 1042) = 2 * (k * 2 ^ 32 * 2 ^ 1042) + 2 ^ 32 * 2 ^ 1042 := by rw [Nat.add_mul, Nat.one_mul, Nat.mul_assoc 2 k, g0]
  rw [g0, g1, g2]
  have x1 : (k * 2 ^ 32 + 1) * 2 ^ 1042 = k * 2 ^ 32 * 2 ^ 1042 + 2 ^ 1042 := by rw [Nat.add_mul, Nat.one_mul]
  have x2 : ((k + 1) * 2 ^ 32 - 1) * 2 ^ 1042 = k * 2 ^ 32 * 2 ^ 1042 + 2 ^ 32 * 2 ^ 1042 - 2 ^ 1042 := by rw [Nat.sub_mul, Nat.one_mul, Nat.mul_assoc, g1]
  have x3 : (2 * k + 1) * 2 ^ 31 * 2 ^ 1042 = k * 2 ^ 32 * 2 ^ 1042 + 2 ^ 31 * 2 ^ 1042 := by
    rw [Nat.add_mul, Nat.add_mul, Nat.one_mul, show 2 * k * 2 ^ 31 = k * (2 * 2 ^ 31) by (try generalize (2 : Nat) ^ 1074 = A1); (try generalize (2 : Nat) ^ 1073 = A2); (try generalize (2 : Nat) ^ 1042 = A3); (try generalize (2 : Nat) ^ 2045 = A4); (try generalize (2 : Nat) ^ (0 - (-2148) : Int).toNat = A5); ac_rfl]
  have x4 : ((2 * k + 1) * 2 ^ 31 - 1) * 2 ^ 1042 = k * 2 ^ 32 * 2 ^ 1042 + 2 ^ 31 * 2 ^ 1042 - 2 ^ 1042 := by rw [Nat.sub_mul, Nat.one_mul, x3]
  have x5 : ((2 * k + 1) * 2 ^ 31 + 1) * 2 ^ 1042 = k * 2 ^ 32 * 2 ^ 1042 + 2 ^ 31 * 2 ^ 1042 + 2 ^ 1042 := by rw [Nat.add_mul ((2 * k + 1) * 2 ^ 31), Nat.one_mul, x3]
  rw [x1] at d1
  rw [x2] at u1
  rw [x4] at u2
  rw [x3] at u3 d3
  rw [x5] at d4
  generalize (2 : Nat) ^ 1042 = P at *
  generalize k * 2 ^ 32 * P = Y at u0 d0 d1 u1 u2 u3 d3 d4 ⊢
  refine And.intro (fun q => ?_) (And.intro (fun q => And.intro ?_ ?_) (And.intro (fun q => ?_) (And.intro (fun q => ?_) (fun q => ?_))))
  · have := u0 (by omega); have := d0 (by omega); omega
  · have := d1 (by omega); omega
  · have := u1 (by omega); omega
  · have := u2 (by omega); omega
  · have := u3 (by omega); have := d3 (by omega); omega
  · have := d4 (by omega); omega
theorem own_cv_lt {a b : UInt64} (o : CmpOp) (h : FP.dcmp a b = some .lt) : cmpValue (FP.dcmp a b) o = (-1 : Int32) := by rw [h]; rfl
theorem own_cv_eq {a b : UInt64} (o : CmpOp) (h : FP.dcmp a b = some .eq) : cmpValue (FP.dcmp a b) o = (0 : Int32) := by rw [h]; rfl
theorem own_cv_gt {a b : UInt64} (o : CmpOp) (h : FP.dcmp a b = some .gt) : cmpValue (FP.dcmp a b) o = (1 : Int32) := by rw [h]; rfl

theorem d1_0 : decode jdk_30_method_1_code 0 = .ok (.aload_n 0, 1) := by decide +kernel
theorem d1_1 : decode jdk_30_method_1_code 1 = .ok (.invokespecial 1, 3) := by decide +kernel
theorem d1_4 : decode jdk_30_method_1_code 4 = .ok (.return_, 1) := by decide +kernel
theorem pn1 : plainName "java/lang/Record" = true := by first | (simp [plainName, overriddenIn]; done) | decide +kernel
theorem ef1 (m : MethodId) (x0 : Addr) : entryFrame m #[(.ref x0)] 1 = mkF m 0 #[.val (.ref x0)] [] := by first | (simp [entryFrame, mkF, argsToLocals, Value.category]; done) | rfl
def Q1 (Z : State) (b : Addr) (h0 : Heap) (n0 : Nat) (v : Option Value) (h : Heap) (L : List Loc) : Prop := v = none ∧ Fr n0 L ∧ h = h0
set_option maxRecDepth 65536 in
set_option maxHeartbeats 40000000 in
theorem rm1 (l : Launch) (Z : State) (a0 : Array Value) (hw : ∀ d ∈ tables_1, d.before a0 Z = true) (ws : List Jvm.Cond) (b : Addr) (h0 : Heap) (n0 : Nat) (Z0 : n0 ≤ h0.size) :
    MetFree l (⟨"java/lang/Record", "<init>", "()V"⟩ : MethodName) (head1 (Jvm.Cond.code (⟨"java/lang/Record", "<init>", "()V"⟩ : MethodName) jdk_30_method_1_code 1 none :: ws) ({ frames := 1, cells := 0, slots := 0, locals := 12 } : Room)) (fun aa U => aa = #[(.ref b)] ∧ Z.Warmed39 U.vm ∧ U.heap = h0) (fun _ _ _ _ _ => True) (fun _ UU oo UU' => ∃ vv LL, oo = .returned vv ∧ Q1 Z b h0 n0 vv UU'.heap LL ∧ FrameEnd UU oo UU' LL ({ frames := 1, cells := 0, slots := 0, locals := 12 } : Room).cells ({ frames := 1, cells := 0, slots := 0, locals := 12 } : Room).slots) := by
  refine MetFree.of_bodySF (plainFor_of_name pn1) hisR ?_
  intro p e s m args below meth c s₁ Bd hml0 hP hK
  obtain ⟨rfl, hZ, hh⟩ := hP
  have hx := Bd.exec
  have hby := Bd.bytes
  have hml : c.maxLocals = 1 := hml0
  have hown : s.vm.findClass "java/lang/Record" = some m.cls := findClass_of_methodNamed Bd.named
  have hnm := (name_of_methodNamed Bd.named Bd.method).1
  have X0 : Stand p l e ({ frames := 1, cells := 0, slots := 0, locals := 12 } : Room) s m #[(.ref b)] below meth c s₁ [] 0 0 := Stand.of_body Bd
  have e0 : s₁.heap = h0 := by rw [← hh, Bd.state]; rfl
  have N0 := Fr.nil n0
  show Ends p e below (fun tt oo => ∃ vv LL, oo = .returned vv ∧ Q1 Z b h0 n0 vv tt.heap LL ∧ FrameEnd s oo tt LL ({ frames := 1, cells := 0, slots := 0, locals := 12 } : Room).cells ({ frames := 1, cells := 0, slots := 0, locals := 12 } : Room).slots) (s₁.setTop (entryFrame m #[(.ref b)] 1))
  refine Ends.pre (fun t k => castTop (ef1 m b) k) ?_
  show Ends p e below _ (s₁.setTop (mkF m 0 #[.val (.ref b)] []))
  refine Ends.pre (fun tt kt => XS.aloadN X0.here hx rfl (hb hby d1_0) rfl rfl kt) ?_
  show Ends p e below _ (s₁.setTop (mkF m 1 #[.val (.ref b)] [(.ref b)]))
  obtain ⟨T1, X1, e1, st1⟩ := initO X0 hx hZ hown (hw _ (List.mem_of_getElem? (i := 14) rfl)) (hw _ (List.mem_of_getElem? (i := 15) rfl)) (hw _ (List.mem_of_getElem? (i := 16) rfl)) e0 (g := (mkF m 1 #[.val (.ref b)] [(.ref b)])) rfl (by rw [hml]; rfl) rfl (hb hby d1_1) (by decide) (W := 0) (by show 2 * 0 + _ ≤ _; exact Nat.le_of_eq rfl) (by decide)
  refine Ends.pre (fun tt kt => st1 _ kt) ?_
  show Ends p e below _ (T1.setTop (mkF m 4 #[.val (.ref b)] []))
  obtain ⟨fs, hr, hrun, hended, hW, hsame⟩ := X1.leave (v := none) (fun _ => rfl)
  refine ⟨_, _, X1.returnOut hx Bd.returns (hb hby d1_4) hr, hrun, hended, _, _, rfl, ?_, ⟨_, rfl⟩, hW, hsame.mono (by decide) (by decide)⟩
  show Q1 Z _ h0 n0 _ T1.heap _
  rw [e1]
  exact ⟨rfl, N0, rfl⟩
theorem d2_0 : decode prog_13_method_1_code 0 = .ok (.aload_n 0, 1) := by decide +kernel
theorem d2_1 : decode prog_13_method_1_code 1 = .ok (.invokespecial 1, 3) := by decide +kernel
theorem d2_4 : decode prog_13_method_1_code 4 = .ok (.iload_n 1, 1) := by decide +kernel
theorem d2_5 : decode prog_13_method_1_code 5 = .ok (.ifCond .lt 18, 3) := by decide +kernel
theorem d2_8 : decode prog_13_method_1_code 8 = .ok (.iload_n 2, 1) := by decide +kernel
theorem d2_9 : decode prog_13_method_1_code 9 = .ok (.ifCond .lt 14, 3) := by decide +kernel
theorem d2_12 : decode prog_13_method_1_code 12 = .ok (.iload_n 2, 1) := by decide +kernel
theorem d2_13 : decode prog_13_method_1_code 13 = .ok (.iload_n 1, 1) := by decide +kernel
theorem d2_14 : decode prog_13_method_1_code 14 = .ok (.if_icmp .gt 9, 3) := by decide +kernel
theorem d2_17 : decode prog_13_method_1_code 17 = .ok (.lload_n 3, 1) := by decide +kernel
theorem d2_18 : decode prog_13_method_1_code 18 = .ok (.lconst 0, 1) := by decide +kernel
theorem d2_19 : decode prog_13_method_1_code 19 = .ok (.lcmp, 1) := by decide +kernel
theorem d2_20 : decode prog_13_method_1_code 20 = .ok (.ifCond .ge 19, 3) := by decide +kernel
theorem d2_39 : decode prog_13_method_1_code 39 = .ok (.aload_n 0, 1) := by decide +kernel
theorem d2_40 : decode prog_13_method_1_code 40 = .ok (.iload_n 1, 1) := by decide +kernel
theorem d2_41 : decode prog_13_method_1_code 41 = .ok (.putfield 16, 3) := by decide +kernel
theorem d2_44 : decode prog_13_method_1_code 44 = .ok (.aload_n 0, 1) := by decide +kernel
theorem d2_45 : decode prog_13_method_1_code 45 = .ok (.iload_n 2, 1) := by decide +kernel
theorem d2_46 : decode prog_13_method_1_code 46 = .ok (.putfield 22, 3) := by decide +kernel
theorem d2_49 : decode prog_13_method_1_code 49 = .ok (.aload_n 0, 1) := by decide +kernel
theorem d2_50 : decode prog_13_method_1_code 50 = .ok (.lload_n 3, 1) := by decide +kernel
theorem d2_51 : decode prog_13_method_1_code 51 = .ok (.putfield 25, 3) := by decide +kernel
theorem d2_54 : decode prog_13_method_1_code 54 = .ok (.return_, 1) := by decide +kernel
theorem pd2_0 : parseMethodDescriptor "()V" = some ⟨[], none⟩ := by decide +kernel
theorem pn2 : plainName "com/example/selvage/selvage/ZoneStats" = true := by first | (simp [plainName, overriddenIn]; done) | decide +kernel
theorem ef2 (m : MethodId) (x0 : Addr) (x1 : Int32) (x2 : Int32) (x3 : Int64) : entryFrame m #[(.ref x0), (.int x1), (.int x2), (.long x3)] 5 = mkF m 0 #[.val (.ref x0), .val (.int x1), .val (.int x2), .val (.long x3), .second] [] := by first | (simp [entryFrame, mkF, argsToLocals, Value.category]; done) | rfl
def Q2 (Z : State) (b : Addr) (i : Int32) (s0 : Int32) (a : Int64) (h0 : Heap) (n0 : Nat) (v : Option Value) (h : Heap) (L : List Loc) : Prop := v = none ∧ Fr n0 L ∧ Keep h0 h [b] ∧ Exa Z h b "com/example/selvage/selvage/ZoneStats" ∧ Fld Z h b "com/example/selvage/selvage/ZoneStats" "instances" "I" (.int i) ∧ Fld Z h b "com/example/selvage/selvage/ZoneStats" "skipped" "I" (.int s0) ∧ Fld Z h b "com/example/selvage/selvage/ZoneStats" "activeRequests" "J" (.long a)
set_option maxRecDepth 65536 in
set_option maxHeartbeats 40000000 in
theorem rm2 (l : Launch) (Z : State) (a0 : Array Value) (hw : ∀ d ∈ tables_1, d.before a0 Z = true) (ws : List Jvm.Cond) (b : Addr) (i : Int32) (s0 : Int32) (a : Int64) (h0 : Heap) (n0 : Nat) (Z0 : n0 ≤ h0.size) (F_instances_b : Fld Z h0 b "com/example/selvage/selvage/ZoneStats" "instances" "I" (.int (0 : Int32))) (F_skipped_b : Fld Z h0 b "com/example/selvage/selvage/ZoneStats" "skipped" "I" (.int (0 : Int32))) (F_activeRequests_b : Fld Z h0 b "com/example/selvage/selvage/ZoneStats" "activeRequests" "J" (.long (0 : Int64))) (E_b : Exa Z h0 b "com/example/selvage/selvage/ZoneStats") (g_b : n0 ≤ b) (h1 : ¬ i < (0 : Int32)) (h2 : ¬ s0 < (0 : Int32)) (h3 : ¬ i < s0) (h4 : ¬ a < (0 : Int64)) :
    MetFree l (⟨"com/example/selvage/selvage/ZoneStats", "<init>", "(IIJ)V"⟩ : MethodName) (head1 (Jvm.Cond.code (⟨"com/example/selvage/selvage/ZoneStats", "<init>", "(IIJ)V"⟩ : MethodName) prog_13_method_1_code 5 none :: ws) ({ frames := 2, cells := 0, slots := 0, locals := 24 } : Room)) (fun aa U => aa = #[(.ref b), (.int i), (.int s0), (.long a)] ∧ Z.Warmed39 U.vm ∧ U.heap = h0) (fun _ _ _ _ _ => True) (fun _ UU oo UU' => ∃ vv LL, oo = .returned vv ∧ Q2 Z b i s0 a h0 n0 vv UU'.heap LL ∧ FrameEnd UU oo UU' LL ({ frames := 2, cells := 0, slots := 0, locals := 24 } : Room).cells ({ frames := 2, cells := 0, slots := 0, locals := 24 } : Room).slots) := by
  refine MetFree.of_bodySF (plainFor_of_name pn2) hisR ?_
  intro p e s m args below meth c s₁ Bd hml0 hP hK
  obtain ⟨rfl, hZ, hh⟩ := hP
  have hx := Bd.exec
  have hby := Bd.bytes
  have hml : c.maxLocals = 5 := hml0
  have hown : s.vm.findClass "com/example/selvage/selvage/ZoneStats" = some m.cls := findClass_of_methodNamed Bd.named
  have hnm := (name_of_methodNamed Bd.named Bd.method).1
  have X0 : Stand p l e ({ frames := 2, cells := 0, slots := 0, locals := 24 } : Room) s m #[(.ref b), (.int i), (.int s0), (.long a)] below meth c s₁ [] 0 0 := Stand.of_body Bd
  have e0 : s₁.heap = h0 := by rw [← hh, Bd.state]; rfl
  have N0 := Fr.nil n0
  show Ends p e below (fun tt oo => ∃ vv LL, oo = .returned vv ∧ Q2 Z b i s0 a h0 n0 vv tt.heap LL ∧ FrameEnd s oo tt LL ({ frames := 2, cells := 0, slots := 0, locals := 24 } : Room).cells ({ frames := 2, cells := 0, slots := 0, locals := 24 } : Room).slots) (s₁.setTop (entryFrame m #[(.ref b), (.int i), (.int s0), (.long a)] 5))
  refine Ends.pre (fun t k => castTop (ef2 m b i s0 a) k) ?_
  show Ends p e below _ (s₁.setTop (mkF m 0 #[.val (.ref b), .val (.int i), .val (.int s0), .val (.long a), .second] []))
  have K0 := Keep.refl h0 [b]
  refine Ends.pre (fun tt kt => XS.aloadN X0.here hx rfl (hb hby d2_0) rfl rfl kt) ?_
  show Ends p e below _ (s₁.setTop (mkF m 1 #[.val (.ref b), .val (.int i), .val (.int s0), .val (.long a), .second] [(.ref b)]))
  obtain ⟨_, _, ⟨T2, L2, k2, n2⟩, -, X2, ⟨Lc2, hQ2, l2, y2, z2⟩, st2⟩ := X0.specialBack hx (y := (⟨"java/lang/Record", "<init>", "()V"⟩ : MethodName)) rfl hown (mvT hZ (hw _ (List.mem_of_getElem? (i := 9) rfl))) (mvT hZ (hw _ (List.mem_of_getElem? (i := 10) rfl))) (mvT hZ (hw _ (List.mem_of_getElem? (i := 13) rfl))) (by decide) (backOf (W := 0) (rm1 l Z a0 hw [] b h0 n0 Z0) hZ (hw _ (List.mem_of_getElem? (i := 13) rfl)) (hw _ (List.mem_of_getElem? (i := 12) rfl)) (by decide) (by decide)) (g := (mkF m 1 #[.val (.ref b), .val (.int i), .val (.int s0), .val (.long a), .second] [(.ref b)])) rfl (by rw [hml]; rfl) (Steps.refl _) (a := b) (argsL := []) (rest := []) (lenOf pd2_0 rfl) rfl (by show 2 * 0 + _ ≤ _; exact Nat.le_of_eq rfl) (hb hby d2_1) (fun _ _ => ⟨rfl, e0, (show (0 : Nat) + (0 : Nat) ≤ _ from by decide), (show (0 : Nat) + (0 : Nat) ≤ _ from by decide)⟩)
  dsimp only [Pt.U, Pt.locs, Pt.cells, Pt.slots] at X2 l2 y2 z2 st2 hQ2
  subst l2 y2 z2
  obtain ⟨rfl, N2q, e2⟩ := hQ2
  have N2 := Fr.app N0 N2q
  refine Ends.pre (fun tt kt => st2.trans kt) ?_
  show Ends p e below _ (T2.setTop (mkF m 4 #[.val (.ref b), .val (.int i), .val (.int s0), .val (.long a), .second] []))
  refine Ends.pre (fun tt kt => XS.iloadN X2.here hx rfl (hb hby d2_4) rfl kt) ?_
  show Ends p e below _ (T2.setTop (mkF m 5 #[.val (.ref b), .val (.int i), .val (.int s0), .val (.long a), .second] [(.int i)]))
  refine Ends.pre (fun tt kt => XS.ifNo X2.here hx rfl (hb hby d2_5) rfl ((if0 _ _).trans (flt h1).1) kt) ?_
  show Ends p e below _ (T2.setTop (mkF m 8 #[.val (.ref b), .val (.int i), .val (.int s0), .val (.long a), .second] []))
  refine Ends.pre (fun tt kt => XS.iloadN X2.here hx rfl (hb hby d2_8) rfl kt) ?_
  show Ends p e below _ (T2.setTop (mkF m 9 #[.val (.ref b), .val (.int i), .val (.int s0), .val (.long a), .second] [(.int s0)]))
  refine Ends.pre (fun tt kt => XS.ifNo X2.here hx rfl (hb hby d2_9) rfl ((if0 _ _).trans (flt h2).1) kt) ?_
  show Ends p e below _ (T2.setTop (mkF m 12 #[.val (.ref b), .val (.int i), .val (.int s0), .val (.long a), .second] []))
  refine Ends.pre (fun tt kt => XS.iloadN X2.here hx rfl (hb hby d2_12) rfl kt) ?_
  show Ends p e below _ (T2.setTop (mkF m 13 #[.val (.ref b), .val (.int i), .val (.int s0), .val (.long a), .second] [(.int s0)]))
  refine Ends.pre (fun tt kt => XS.iloadN X2.here hx rfl (hb hby d2_13) rfl kt) ?_
  show Ends p e below _ (T2.setTop (mkF m 14 #[.val (.ref b), .val (.int i), .val (.int s0), .val (.long a), .second] [(.int i), (.int s0)]))
  refine Ends.pre (fun tt kt => XS.icmpNo X2.here hx rfl (hb hby d2_14) rfl (flt h3).2.2.1 kt) ?_
  show Ends p e below _ (T2.setTop (mkF m 17 #[.val (.ref b), .val (.int i), .val (.int s0), .val (.long a), .second] []))
  refine Ends.pre (fun tt kt => XS.lloadN X2.here hx rfl (hb hby d2_17) rfl kt) ?_
  show Ends p e below _ (T2.setTop (mkF m 18 #[.val (.ref b), .val (.int i), .val (.int s0), .val (.long a), .second] [(.long a)]))
  refine Ends.pre (fun tt kt => XS.lconst X2.here hx rfl (hb hby d2_18) kt) ?_
  show Ends p e below _ (T2.setTop (mkF m 19 #[.val (.ref b), .val (.int i), .val (.int s0), .val (.long a), .second] [(.long (0 : Int64)), (.long a)]))
  refine Ends.pre (fun tt kt => XS.lcmp X2.here hx rfl (hb hby d2_19) rfl kt) ?_
  show Ends p e below _ (T2.setTop (mkF m 20 #[.val (.ref b), .val (.int i), .val (.int s0), .val (.long a), .second] [(.int (lcmpW a (0 : Int64)))]))
  refine Ends.pre (fun tt kt => XS.ifYes X2.here hx rfl (pc0 := 20) (pc' := 39) rfl (hb hby d2_20) rfl ((if0 _ _).trans (flt (mt (lw_lt _ _).mp h4)).2.1) (by decide) (by decide) kt) ?_
  show Ends p e below _ (T2.setTop (mkF m 39 #[.val (.ref b), .val (.int i), .val (.int s0), .val (.long a), .second] []))
  refine Ends.pre (fun tt kt => XS.aloadN X2.here hx rfl (hb hby d2_39) rfl rfl kt) ?_
  show Ends p e below _ (T2.setTop (mkF m 40 #[.val (.ref b), .val (.int i), .val (.int s0), .val (.long a), .second] [(.ref b)]))
  refine Ends.pre (fun tt kt => XS.iloadN X2.here hx rfl (hb hby d2_40) rfl kt) ?_
  show Ends p e below _ (T2.setTop (mkF m 41 #[.val (.ref b), .val (.int i), .val (.int s0), .val (.long a), .second] [(.int i), (.ref b)]))
  obtain ⟨T3, h3, X3, e3, W3, st3⟩ := putF X2 hx hZ hown (host := "") (Or.inl (hw _ (List.mem_of_getElem? (i := 17) rfl))) Via.refl e2 F_instances_b E_b (Or.inr ⟨(hw _ (List.mem_of_getElem? (i := 18) rfl)), rfl, hnm⟩) (hw _ (List.mem_of_getElem? (i := 4) rfl)) (ty := .int) (by decide) rfl rfl (g := (mkF m 41 #[.val (.ref b), .val (.int i), .val (.int s0), .val (.long a), .second] [(.int i), (.ref b)])) rfl rfl (hb hby d2_41)
  have F_skipped_b := F_skipped_b.other W3 (Or.inr (slot_ne (Or.inr (hw _ (List.mem_of_getElem? (i := 20) rfl))) (Or.inr (hw _ (List.mem_of_getElem? (i := 18) rfl))) (by decide) (t := .int) (t' := .int) (by decide) (by decide)))
  have F_activeRequests_b := F_activeRequests_b.other W3 (Or.inr (slot_ne (Or.inr (hw _ (List.mem_of_getElem? (i := 22) rfl))) (Or.inr (hw _ (List.mem_of_getElem? (i := 18) rfl))) (by decide) (t := .long) (t' := .int) (by decide) (by decide)))
  have E_b := E_b.wr W3
  have K0 := K0.wr W3 (Or.inl (List.mem_of_getElem? (i := 0) rfl))
  have Z0 := Nat.le_trans Z0 (Keep.of_wr W3).1
  have F_instances_b := F_instances_b.same W3
  have N3 := Fr.snoc X3 N2 g_b
  refine Ends.pre (fun tt kt => st3 _ kt) ?_
  show Ends p e below _ (T3.setTop (mkF m 44 #[.val (.ref b), .val (.int i), .val (.int s0), .val (.long a), .second] []))
  refine Ends.pre (fun tt kt => XS.aloadN X3.here hx rfl (hb hby d2_44) rfl rfl kt) ?_
  show Ends p e below _ (T3.setTop (mkF m 45 #[.val (.ref b), .val (.int i), .val (.int s0), .val (.long a), .second] [(.ref b)]))
  refine Ends.pre (fun tt kt => XS.iloadN X3.here hx rfl (hb hby d2_45) rfl kt) ?_
  show Ends p e below _ (T3.setTop (mkF m 46 #[.val (.ref b), .val (.int i), .val (.int s0), .val (.long a), .second] [(.int s0), (.ref b)]))
  obtain ⟨T4, h4, X4, e4, W4, st4⟩ := putF X3 hx hZ hown (host := "") (Or.inl (hw _ (List.mem_of_getElem? (i := 19) rfl))) Via.refl e3 F_skipped_b E_b (Or.inr ⟨(hw _ (List.mem_of_getElem? (i := 20) rfl)), rfl, hnm⟩) (hw _ (List.mem_of_getElem? (i := 4) rfl)) (ty := .int) (by decide) rfl rfl (g := (mkF m 46 #[.val (.ref b), .val (.int i), .val (.int s0), .val (.long a), .second] [(.int s0), (.ref b)])) rfl rfl (hb hby d2_46)
  have F_instances_b := F_instances_b.other W4 (Or.inr (slot_ne (Or.inr (hw _ (List.mem_of_getElem? (i := 18) rfl))) (Or.inr (hw _ (List.mem_of_getElem? (i := 20) rfl))) (by decide) (t := .int) (t' := .int) (by decide) (by decide)))
  have F_activeRequests_b := F_activeRequests_b.other W4 (Or.inr (slot_ne (Or.inr (hw _ (List.mem_of_getElem? (i := 22) rfl))) (Or.inr (hw _ (List.mem_of_getElem? (i := 20) rfl))) (by decide) (t := .long) (t' := .int) (by decide) (by decide)))
  have E_b := E_b.wr W4
  have K0 := K0.wr W4 (Or.inl (List.mem_of_getElem? (i := 0) rfl))
  have Z0 := Nat.le_trans Z0 (Keep.of_wr W4).1
  have F_skipped_b := F_skipped_b.same W4
  have N4 := Fr.snoc X4 N3 g_b
  refine Ends.pre (fun tt kt => st4 _ kt) ?_
  show Ends p e below _ (T4.setTop (mkF m 49 #[.val (.ref b), .val (.int i), .val (.int s0), .val (.long a), .second] []))
  refine Ends.pre (fun tt kt => XS.aloadN X4.here hx rfl (hb hby d2_49) rfl rfl kt) ?_
  show Ends p e below _ (T4.setTop (mkF m 50 #[.val (.ref b), .val (.int i), .val (.int s0), .val (.long a), .second] [(.ref b)]))
  refine Ends.pre (fun tt kt => XS.lloadN X4.here hx rfl (hb hby d2_50) rfl kt) ?_
  show Ends p e below _ (T4.setTop (mkF m 51 #[.val (.ref b), .val (.int i), .val (.int s0), .val (.long a), .second] [(.long a), (.ref b)]))
  obtain ⟨T5, h5, X5, e5, W5, st5⟩ := putF X4 hx hZ hown (host := "") (Or.inl (hw _ (List.mem_of_getElem? (i := 21) rfl))) Via.refl e4 F_activeRequests_b E_b (Or.inr ⟨(hw _ (List.mem_of_getElem? (i := 22) rfl)), rfl, hnm⟩) (hw _ (List.mem_of_getElem? (i := 4) rfl)) (ty := .long) (by decide) rfl rfl (g := (mkF m 51 #[.val (.ref b), .val (.int i), .val (.int s0), .val (.long a), .second] [(.long a), (.ref b)])) rfl rfl (hb hby d2_51)
  have F_instances_b := F_instances_b.other W5 (Or.inr (slot_ne (Or.inr (hw _ (List.mem_of_getElem? (i := 18) rfl))) (Or.inr (hw _ (List.mem_of_getElem? (i := 22) rfl))) (by decide) (t := .int) (t' := .long) (by decide) (by decide)))
  have F_skipped_b := F_skipped_b.other W5 (Or.inr (slot_ne (Or.inr (hw _ (List.mem_of_getElem? (i := 20) rfl))) (Or.inr (hw _ (List.mem_of_getElem? (i := 22) rfl))) (by decide) (t := .int) (t' := .long) (by decide) (by decide)))
  have E_b := E_b.wr W5
  have K0 := K0.wr W5 (Or.inl (List.mem_of_getElem? (i := 0) rfl))
  have Z0 := Nat.le_trans Z0 (Keep.of_wr W5).1
  have F_activeRequests_b := F_activeRequests_b.same W5
  have N5 := Fr.snoc X5 N4 g_b
  refine Ends.pre (fun tt kt => st5 _ kt) ?_
  show Ends p e below _ (T5.setTop (mkF m 54 #[.val (.ref b), .val (.int i), .val (.int s0), .val (.long a), .second] []))
  obtain ⟨fs, hr, hrun, hended, hW, hsame⟩ := X5.leave (v := none) (fun _ => rfl)
  refine ⟨_, _, X5.returnOut hx Bd.returns (hb hby d2_54) hr, hrun, hended, _, _, rfl, ?_, ⟨_, rfl⟩, hW, hsame.mono (by decide) (by decide)⟩
  show Q2 Z _ _ _ _ h0 n0 _ T5.heap _
  rw [e5]
  exact ⟨rfl, N5, K0, E_b, F_instances_b, F_skipped_b, F_activeRequests_b⟩
theorem d3_0 : decode prog_13_method_2_code 0 = .ok (.aload_n 0, 1) := by decide +kernel
theorem d3_1 : decode prog_13_method_2_code 1 = .ok (.getfield 16, 3) := by decide +kernel
theorem d3_4 : decode prog_13_method_2_code 4 = .ok (.aload_n 0, 1) := by decide +kernel
theorem d3_5 : decode prog_13_method_2_code 5 = .ok (.getfield 22, 3) := by decide +kernel
theorem d3_8 : decode prog_13_method_2_code 8 = .ok (.isub, 1) := by decide +kernel
theorem d3_9 : decode prog_13_method_2_code 9 = .ok (.ireturn, 1) := by decide +kernel
theorem pn3 : plainName "com/example/selvage/selvage/ZoneStats" = true := by first | (simp [plainName, overriddenIn]; done) | decide +kernel
theorem ef3 (m : MethodId) (x0 : Addr) : entryFrame m #[(.ref x0)] 1 = mkF m 0 #[.val (.ref x0)] [] := by first | (simp [entryFrame, mkF, argsToLocals, Value.category]; done) | rfl
def Q3 (Z : State) (b : Addr) (i : Int32) (s0 : Int32) (h0 : Heap) (n0 : Nat) (v : Option Value) (h : Heap) (L : List Loc) : Prop := v = some (.int (i - s0)) ∧ Fr n0 L ∧ h = h0
set_option maxRecDepth 65536 in
set_option maxHeartbeats 40000000 in
theorem rm3 (l : Launch) (Z : State) (a0 : Array Value) (hw : ∀ d ∈ tables_1, d.before a0 Z = true) (ws : List Jvm.Cond) (b : Addr) (i : Int32) (s0 : Int32) (h0 : Heap) (n0 : Nat) (Z0 : n0 ≤ h0.size) (F1 : Fld Z h0 b "com/example/selvage/selvage/ZoneStats" "instances" "I" (.int i)) (F2 : Fld Z h0 b "com/example/selvage/selvage/ZoneStats" "skipped" "I" (.int s0)) :
    MetFree l (⟨"com/example/selvage/selvage/ZoneStats", "available", "()I"⟩ : MethodName) (head1 (Jvm.Cond.code (⟨"com/example/selvage/selvage/ZoneStats", "available", "()I"⟩ : MethodName) prog_13_method_2_code 1 (some .int) :: ws) ({ frames := 0, cells := 0, slots := 0, locals := 0 } : Room)) (fun aa U => aa = #[(.ref b)] ∧ Z.Warmed39 U.vm ∧ U.heap = h0) (fun _ _ _ _ _ => True) (fun _ UU oo UU' => ∃ vv LL, oo = .returned vv ∧ Q3 Z b i s0 h0 n0 vv UU'.heap LL ∧ FrameEnd UU oo UU' LL ({ frames := 0, cells := 0, slots := 0, locals := 0 } : Room).cells ({ frames := 0, cells := 0, slots := 0, locals := 0 } : Room).slots) := by
  refine MetFree.of_bodySF (plainFor_of_name pn3) hisR ?_
  intro p e s m args below meth c s₁ Bd hml0 hP hK
  obtain ⟨rfl, hZ, hh⟩ := hP
  have hx := Bd.exec
  have hby := Bd.bytes
  have hml : c.maxLocals = 1 := hml0
  have hown : s.vm.findClass "com/example/selvage/selvage/ZoneStats" = some m.cls := findClass_of_methodNamed Bd.named
  have hnm := (name_of_methodNamed Bd.named Bd.method).1
  have X0 : Stand p l e ({ frames := 0, cells := 0, slots := 0, locals := 0 } : Room) s m #[(.ref b)] below meth c s₁ [] 0 0 := Stand.of_body Bd
  have e0 : s₁.heap = h0 := by rw [← hh, Bd.state]; rfl
  have N0 := Fr.nil n0
  show Ends p e below (fun tt oo => ∃ vv LL, oo = .returned vv ∧ Q3 Z b i s0 h0 n0 vv tt.heap LL ∧ FrameEnd s oo tt LL ({ frames := 0, cells := 0, slots := 0, locals := 0 } : Room).cells ({ frames := 0, cells := 0, slots := 0, locals := 0 } : Room).slots) (s₁.setTop (entryFrame m #[(.ref b)] 1))
  refine Ends.pre (fun t k => castTop (ef3 m b) k) ?_
  show Ends p e below _ (s₁.setTop (mkF m 0 #[.val (.ref b)] []))
  refine Ends.pre (fun tt kt => XS.aloadN X0.here hx rfl (hb hby d3_0) rfl rfl kt) ?_
  show Ends p e below _ (s₁.setTop (mkF m 1 #[.val (.ref b)] [(.ref b)]))
  obtain ⟨T6, X6, e6, st6⟩ := getF X0 hx hZ hown (host := "") (Or.inl (hw _ (List.mem_of_getElem? (i := 17) rfl))) Via.refl e0 F1 (g := (mkF m 1 #[.val (.ref b)] [(.ref b)])) rfl rfl (hb hby d3_1)
  refine Ends.pre (fun tt kt => st6 _ kt) ?_
  show Ends p e below _ (T6.setTop (mkF m 4 #[.val (.ref b)] [(.int i)]))
  refine Ends.pre (fun tt kt => XS.aloadN X6.here hx rfl (hb hby d3_4) rfl rfl kt) ?_
  show Ends p e below _ (T6.setTop (mkF m 5 #[.val (.ref b)] [(.ref b), (.int i)]))
  obtain ⟨T7, X7, e7, st7⟩ := getF X6 hx hZ hown (host := "") (Or.inl (hw _ (List.mem_of_getElem? (i := 19) rfl))) Via.refl e6 F2 (g := (mkF m 5 #[.val (.ref b)] [(.ref b), (.int i)])) rfl rfl (hb hby d3_5)
  refine Ends.pre (fun tt kt => st7 _ kt) ?_
  show Ends p e below _ (T7.setTop (mkF m 8 #[.val (.ref b)] [(.int s0), (.int i)]))
  refine Ends.pre (fun tt kt => XS.isub X7.here hx rfl (hb hby d3_8) rfl kt) ?_
  show Ends p e below _ (T7.setTop (mkF m 9 #[.val (.ref b)] [(.int (i - s0))]))
  obtain ⟨fs, hr, hrun, hended, hW, hsame⟩ := X7.leave (v := some (.int (i - s0))) (fun h => by rw [Bd.returns] at h; cases h)
  refine ⟨_, _, retOut X7 hx Bd.returns rfl (Or.inl ⟨rfl, Or.inl rfl, _, rfl⟩) (hb hby d3_9) hr, hrun, hended, _, _, rfl, ?_, ⟨_, rfl⟩, hW, hsame.mono (by decide) (by decide)⟩
  show Q3 Z _ _ _ h0 n0 _ T7.heap _
  rw [e7]
  exact ⟨rfl, N0, rfl⟩
theorem d4_0 : decode prog_13_method_3_code 0 = .ok (.aload_n 0, 1) := by decide +kernel
theorem d4_1 : decode prog_13_method_3_code 1 = .ok (.invokevirtual 29, 3) := by decide +kernel
theorem d4_4 : decode prog_13_method_3_code 4 = .ok (.istore_n 1, 1) := by decide +kernel
theorem d4_5 : decode prog_13_method_3_code 5 = .ok (.iload_n 1, 1) := by decide +kernel
theorem d4_6 : decode prog_13_method_3_code 6 = .ok (.ifCond .ne 9, 3) := by decide +kernel
theorem d4_9 : decode prog_13_method_3_code 9 = .ok (.ldc2_w 33, 3) := by decide +kernel
theorem d4_12 : decode prog_13_method_3_code 12 = .ok (.goto 11, 3) := by decide +kernel
theorem d4_15 : decode prog_13_method_3_code 15 = .ok (.aload_n 0, 1) := by decide +kernel
theorem d4_16 : decode prog_13_method_3_code 16 = .ok (.getfield 25, 3) := by decide +kernel
theorem d4_19 : decode prog_13_method_3_code 19 = .ok (.l2d, 1) := by decide +kernel
theorem d4_20 : decode prog_13_method_3_code 20 = .ok (.iload_n 1, 1) := by decide +kernel
theorem d4_21 : decode prog_13_method_3_code 21 = .ok (.i2d, 1) := by decide +kernel
theorem d4_22 : decode prog_13_method_3_code 22 = .ok (.ddiv, 1) := by decide +kernel
theorem d4_23 : decode prog_13_method_3_code 23 = .ok (.dreturn, 1) := by decide +kernel
theorem pd4_0 : parseMethodDescriptor "()I" = some ⟨[], some .int⟩ := by decide +kernel
theorem pn4 : plainName "com/example/selvage/selvage/ZoneStats" = true := by first | (simp [plainName, overriddenIn]; done) | decide +kernel
theorem ef4 (m : MethodId) (x0 : Addr) : entryFrame m #[(.ref x0)] 2 = mkF m 0 #[.val (.ref x0), .unset] [] := by first | (simp [entryFrame, mkF, argsToLocals, Value.category]; done) | rfl
def Q4 (Z : State) (b : Addr) (i : Int32) (s0 : Int32) (a : Int64) (h0 : Heap) (n0 : Nat) (v : Option Value) (h : Heap) (L : List Loc) : Prop := v = some (.double (own_load a (i - s0))) ∧ Fr n0 L ∧ h = h0
set_option maxRecDepth 65536 in
set_option maxHeartbeats 40000000 in
theorem rm4 (l : Launch) (Z : State) (a0 : Array Value) (hw : ∀ d ∈ tables_1, d.before a0 Z = true) (ws : List Jvm.Cond) (b : Addr) (i : Int32) (s0 : Int32) (a : Int64) (h0 : Heap) (n0 : Nat) (Z0 : n0 ≤ h0.size) (F1 : Fld Z h0 b "com/example/selvage/selvage/ZoneStats" "instances" "I" (.int i)) (F2 : Fld Z h0 b "com/example/selvage/selvage/ZoneStats" "skipped" "I" (.int s0)) (F3 : Fld Z h0 b "com/example/selvage/selvage/ZoneStats" "activeRequests" "J" (.long a)) (E_b : Exa Z h0 b "com/example/selvage/selvage/ZoneStats") :
    MetFree l (⟨"com/example/selvage/selvage/ZoneStats", "loadPerServer", "()D"⟩ : MethodName) (head1 (Jvm.Cond.code (⟨"com/example/selvage/selvage/ZoneStats", "loadPerServer", "()D"⟩ : MethodName) prog_13_method_3_code 2 (some .double) :: ws) ({ frames := 1, cells := 0, slots := 0, locals := 12 } : Room)) (fun aa U => aa = #[(.ref b)] ∧ Z.Warmed39 U.vm ∧ U.heap = h0) (fun _ _ _ _ _ => True) (fun _ UU oo UU' => ∃ vv LL, oo = .returned vv ∧ Q4 Z b i s0 a h0 n0 vv UU'.heap LL ∧ FrameEnd UU oo UU' LL ({ frames := 1, cells := 0, slots := 0, locals := 12 } : Room).cells ({ frames := 1, cells := 0, slots := 0, locals := 12 } : Room).slots) := by
  refine MetFree.of_bodySF (plainFor_of_name pn4) hisR ?_
  intro p e s m args below meth c s₁ Bd hml0 hP hK
  obtain ⟨rfl, hZ, hh⟩ := hP
  have hx := Bd.exec
  have hby := Bd.bytes
  have hml : c.maxLocals = 2 := hml0
  have hown : s.vm.findClass "com/example/selvage/selvage/ZoneStats" = some m.cls := findClass_of_methodNamed Bd.named
  have hnm := (name_of_methodNamed Bd.named Bd.method).1
  have X0 : Stand p l e ({ frames := 1, cells := 0, slots := 0, locals := 12 } : Room) s m #[(.ref b)] below meth c s₁ [] 0 0 := Stand.of_body Bd
  have e0 : s₁.heap = h0 := by rw [← hh, Bd.state]; rfl
  have N0 := Fr.nil n0
  show Ends p e below (fun tt oo => ∃ vv LL, oo = .returned vv ∧ Q4 Z b i s0 a h0 n0 vv tt.heap LL ∧ FrameEnd s oo tt LL ({ frames := 1, cells := 0, slots := 0, locals := 12 } : Room).cells ({ frames := 1, cells := 0, slots := 0, locals := 12 } : Room).slots) (s₁.setTop (entryFrame m #[(.ref b)] 2))
  refine Ends.pre (fun t k => castTop (ef4 m b) k) ?_
  show Ends p e below _ (s₁.setTop (mkF m 0 #[.val (.ref b), .unset] []))
  refine Ends.pre (fun tt kt => XS.aloadN X0.here hx rfl (hb hby d4_0) rfl rfl kt) ?_
  show Ends p e below _ (s₁.setTop (mkF m 1 #[.val (.ref b), .unset] [(.ref b)]))
  obtain ⟨cq8, kq8, q8a, q8b, q8c⟩ := isOf hZ e0 E_b
  obtain ⟨_, _, ⟨T8, L8, k8, n8⟩, -, X8, ⟨Lc8, hQ8, l8, y8, z8⟩, st8⟩ := X0.virtualBack hx (y := (⟨"com/example/selvage/selvage/ZoneStats", "available", "()I"⟩ : MethodName)) (z := (⟨"com/example/selvage/selvage/ZoneStats", "available", "()I"⟩ : MethodName)) hown (mvT hZ (hw _ (List.mem_of_getElem? (i := 28) rfl))) (mvT hZ (hw _ (List.mem_of_getElem? (i := 29) rfl))) (notFace_of_selects (args := #[]) (mvT hZ (hw _ (List.mem_of_getElem? (i := 31) rfl)))) (mvT hZ (hw _ (List.mem_of_getElem? (i := 31) rfl))) (mvT hZ (hw _ (List.mem_of_getElem? (i := 30) rfl))) (by decide) (backOf (W := 0) (rm3 l Z a0 hw [] b i s0 h0 n0 Z0 F1 F2) hZ (hw _ (List.mem_of_getElem? (i := 32) rfl)) (hw _ (List.mem_of_getElem? (i := 5) rfl)) (by decide) (by decide)) q8a q8c (g := (mkF m 1 #[.val (.ref b), .unset] [(.ref b)])) rfl (by rw [hml]; rfl) (Steps.refl _) (argsL := []) (rest := []) (lenOf pd4_0 rfl) rfl (by show 2 * 0 + _ ≤ _; exact Nat.le_of_eq rfl) (hb hby d4_1) (fun _ _ => ⟨rfl, e0, (show (0 : Nat) + (0 : Nat) ≤ _ from by decide), (show (0 : Nat) + (0 : Nat) ≤ _ from by decide)⟩)
  dsimp only [Pt.U, Pt.locs, Pt.cells, Pt.slots] at X8 l8 y8 z8 st8 hQ8
  subst l8 y8 z8
  obtain ⟨rfl, N8q, e8⟩ := hQ8
  have N8 := Fr.app N0 N8q
  refine Ends.pre (fun tt kt => st8.trans kt) ?_
  show Ends p e below _ (T8.setTop (mkF m 4 #[.val (.ref b), .unset] [(.int (i - s0))]))
  refine Ends.pre (fun tt kt => XS.istoreN X8.here hx rfl (hb hby d4_4) rfl (l' := #[.val (.ref b), .val (.int (i - s0))]) rfl kt) ?_
  show Ends p e below _ (T8.setTop (mkF m 5 #[.val (.ref b), .val (.int (i - s0))] []))
  refine Ends.pre (fun tt kt => XS.iloadN X8.here hx rfl (hb hby d4_5) rfl kt) ?_
  show Ends p e below _ (T8.setTop (mkF m 6 #[.val (.ref b), .val (.int (i - s0))] [(.int (i - s0))]))
  by_cases h1 : (i - s0) = (0 : Int32)
  ·
    refine Ends.pre (fun tt kt => XS.ifNo X8.here hx rfl (hb hby d4_6) rfl ((if0 _ _).trans (teq h1).2) kt) ?_
    show Ends p e below _ (T8.setTop (mkF m 9 #[.val (.ref b), .val (.int (i - s0))] []))
    refine Ends.pre (fun tt kt => X8.ldc2DoubleC hx hown (mvT hZ (hw _ (List.mem_of_getElem? (i := 33) rfl))) (g := (mkF m 9 #[.val (.ref b), .val (.int (i - s0))] [])) rfl (hb hby d4_9) _ kt) ?_
    show Ends p e below _ (T8.setTop (mkF m 12 #[.val (.ref b), .val (.int (i - s0))] [(.double (13830554455654793216 : UInt64))]))
    refine Ends.pre (fun tt kt => XS.goto X8.here hx rfl (pc0 := 12) (pc' := 23) rfl (hb hby d4_12) (by decide) (by decide) kt) ?_
    show Ends p e below _ (T8.setTop (mkF m 23 #[.val (.ref b), .val (.int (i - s0))] [(.double (13830554455654793216 : UInt64))]))
    obtain ⟨fs, hr, hrun, hended, hW, hsame⟩ := X8.leave (v := some (.double (13830554455654793216 : UInt64))) (fun h => by rw [Bd.returns] at h; cases h)
    refine ⟨_, _, retOut X8 hx Bd.returns rfl (Or.inr (Or.inr (Or.inl ⟨rfl, rfl, _, rfl⟩))) (hb hby d4_23) hr, hrun, hended, _, _, rfl, ?_, ⟨_, rfl⟩, hW, hsame.mono (by decide) (by decide)⟩
    show Q4 Z _ _ _ _ h0 n0 _ T8.heap _
    rw [e8]
    exact ⟨by unfold own_load; rw [if_pos h1], N8, rfl⟩
  ·
    refine Ends.pre (fun tt kt => XS.ifYes X8.here hx rfl (pc0 := 6) (pc' := 15) rfl (hb hby d4_6) rfl ((if0 _ _).trans (feq h1).2) (by decide) (by decide) kt) ?_
    show Ends p e below _ (T8.setTop (mkF m 15 #[.val (.ref b), .val (.int (i - s0))] []))
    refine Ends.pre (fun tt kt => XS.aloadN X8.here hx rfl (hb hby d4_15) rfl rfl kt) ?_
    show Ends p e below _ (T8.setTop (mkF m 16 #[.val (.ref b), .val (.int (i - s0))] [(.ref b)]))
    obtain ⟨T9, X9, e9, st9⟩ := getF X8 hx hZ hown (host := "") (Or.inl (hw _ (List.mem_of_getElem? (i := 21) rfl))) Via.refl e8 F3 (g := (mkF m 16 #[.val (.ref b), .val (.int (i - s0))] [(.ref b)])) rfl rfl (hb hby d4_16)
    refine Ends.pre (fun tt kt => st9 _ kt) ?_
    show Ends p e below _ (T9.setTop (mkF m 19 #[.val (.ref b), .val (.int (i - s0))] [(.long a)]))
    refine Ends.pre (fun tt kt => XS.l2dS X9.here hx rfl (v := (FP.l2d a)) (hb hby d4_19) rfl rfl kt) ?_
    show Ends p e below _ (T9.setTop (mkF m 20 #[.val (.ref b), .val (.int (i - s0))] [(.double (FP.l2d a))]))
    refine Ends.pre (fun tt kt => XS.iloadN X9.here hx rfl (hb hby d4_20) rfl kt) ?_
    show Ends p e below _ (T9.setTop (mkF m 21 #[.val (.ref b), .val (.int (i - s0))] [(.int (i - s0)), (.double (FP.l2d a))]))
    refine Ends.pre (fun tt kt => XS.i2dS X9.here hx rfl (v := (FP.i2d (i - s0))) (hb hby d4_21) rfl rfl kt) ?_
    show Ends p e below _ (T9.setTop (mkF m 22 #[.val (.ref b), .val (.int (i - s0))] [(.double (FP.i2d (i - s0))), (.double (FP.l2d a))]))
    refine Ends.pre (fun tt kt => XS.ddivS X9.here hx rfl (v := (FP.ddiv (FP.l2d a) (FP.i2d (i - s0)))) (hb hby d4_22) rfl (own_divnn h1) rfl kt) ?_
    show Ends p e below _ (T9.setTop (mkF m 23 #[.val (.ref b), .val (.int (i - s0))] [(.double (FP.ddiv (FP.l2d a) (FP.i2d (i - s0))))]))
    obtain ⟨fs, hr, hrun, hended, hW, hsame⟩ := X9.leave (v := some (.double (FP.ddiv (FP.l2d a) (FP.i2d (i - s0))))) (fun h => by rw [Bd.returns] at h; cases h)
    refine ⟨_, _, retOut X9 hx Bd.returns rfl (Or.inr (Or.inr (Or.inl ⟨rfl, rfl, _, rfl⟩))) (hb hby d4_23) hr, hrun, hended, _, _, rfl, ?_, ⟨_, rfl⟩, hW, hsame.mono (by decide) (by decide)⟩
    show Q4 Z _ _ _ _ h0 n0 _ T9.heap _
    rw [e9]
    exact ⟨by unfold own_load; rw [if_neg h1], N8, rfl⟩
theorem own_nneg {x : Int32} {n : Nat} (h : x.toInt = n) : ¬ x < (0 : Int32) := by
  rw [Int32.lt_iff_toInt_lt, h, show (0 : Int32).toInt = 0 from by decide]; omega
theorem own_nnegL {x : Int64} {n : Nat} (h : x.toInt = ((n : Nat) : Int)) : ¬ x < (0 : Int64) := by
  rw [Int64.lt_iff_toInt_lt, h, show (0 : Int64).toInt = 0 from by decide]; omega
theorem own_maskL (q : Int64) : ¬ (q &&& (9223372036854775807 : Int64)) < (0 : Int64) := by
  rw [Int64.lt_iff_toInt_lt, c_maskL q 9223372036854775807 63 (by decide) (by decide), show (0 : Int64).toInt = 0 from by decide]; omega
theorem own_n {i s n : Int32} {I S : Nat} (hi : i.toInt = I) (hs : s.toInt = S) (hle : S ≤ I) (h : n = (i - s)) : ∃ N : Nat, n.toInt = N ∧ N < 2 ^ 31 := by
  have c := c_isub i s
  have r := rng32 n
  have r2 := rng32 i
  rw [← h] at c
  exact ⟨n.toInt.toNat, by omega, by omega⟩
theorem own_two {n : Int32} {N : Nat} (h : n.toInt = N) (hg : (1 : Int32) < n) : 2 ≤ N := by
  rw [Int32.lt_iff_toInt_lt, h, show (1 : Int32).toInt = 1 from by decide] at hg; omega
theorem own_k {k0 : Int32} {k : Int64} (h : k = (k0.toInt64 &&& (1048575 : Int64))) : ∃ N : Nat, k.toInt = N ∧ N < 2 ^ 20 := by
  have c := c_maskL k0.toInt64 1048575 20 (by decide) (by decide)
  rw [← h] at c
  exact ⟨k.toInt.toNat, by omega, by omega⟩
theorem own_nnz {n : Int32} {N : Nat} (h : n.toInt = N) (h2 : 2 ≤ N) : n.toInt64 ≠ 0 := by
  intro q
  have c := c_i2l n
  rw [q, h, show (0 : Int64).toInt = 0 from by decide] at c; omega
theorem own_nnz32 {n : Int32} {N : Nat} (h : n.toInt = N) (h2 : 2 ≤ N) : ¬ n = 0 := by
  intro q; rw [q, show (0 : Int32).toInt = 0 from by decide] at h; omega
theorem own_r {r0 n : Int32} {r : Int64} {N : Nat} (hn : n.toInt = N) (h2 : 2 ≤ N) (h : r = ((r0.toInt64 &&& (2147483647 : Int64)) - (r0.toInt64 &&& (2147483647 : Int64)) / n.toInt64 * n.toInt64)) : ∃ R : Nat, r.toInt = R ∧ R < N := by
  have c1 := c_maskL r0.toInt64 2147483647 31 (by decide) (by decide)
  have c2 := (c_lrem (r0.toInt64 &&& (2147483647 : Int64)) n.toInt64 N (by rw [c_i2l, hn])).1 (by rw [c1]; omega)
  rw [← h, c1] at c2
  have m1 := Int.emod_nonneg (r0.toInt64.toInt % ((2 ^ 31 : Nat) : Int)) (show (N : Int) ≠ 0 by omega)
  have m2 := Int.emod_lt_of_pos (r0.toInt64.toInt % ((2 ^ 31 : Nat) : Int)) (show 0 < (N : Int) by omega)
  exact ⟨r.toInt.toNat, by omega, by omega⟩
theorem own_a {k r a : Int64} {n : Int32} {K N R : Nat} (hk : k.toInt = K) (hn : n.toInt = N) (hr : r.toInt = R) (hk2 : K < 2 ^ 20) (hn2 : N < 2 ^ 31) (hr2 : R < N) (h : a = ((k * n.toInt64) + r)) : a.toInt = ((K * N + R : Nat) : Int) := by
  have c1 := c_lmul k n.toInt64
  have c2 := c_ladd (k * n.toInt64) r
  have r1 := rng64 (k * n.toInt64)
  have r2 := rng64 a
  rw [← h] at c2
  rw [c_i2l, hk, hn, ← Int.natCast_mul] at c1
  have b : K * N ≤ 2 ^ 20 * N := Nat.mul_le_mul_right _ (by omega)
  omega
theorem own_ld {a : Int64} {n : Int32} (h : ¬ n = 0) : own_load a n = FP.ddiv (FP.l2d a) (FP.i2d n) := by unfold own_load; rw [if_neg h]
theorem own_k1 {k : Int64} {K : Nat} (hk : k.toInt = K) (h : K < 2 ^ 20) : (k + (1 : Int64)).toInt = ((K + 1 : Nat) : Int) := by
  have c := c_ladd k 1
  have r := rng64 (k + 1)
  rw [hk, show (1 : Int64).toInt = 1 from by decide] at c; omega
theorem own_mid {k : Int64} {K : Nat} (hk : k.toInt = K) (h : K < 2 ^ 20) : (((2 : Int64) * k) + (1 : Int64)).toInt = ((2 * K + 1 : Nat) : Int) := by
  have c1 := c_lmul 2 k
  have c := c_ladd (2 * k) 1
  have r1 := rng64 (2 * k)
  have r := rng64 (2 * k + 1)
  rw [hk, show (2 : Int64).toInt = 2 from by decide] at c1
  rw [show (1 : Int64).toInt = 1 from by decide] at c; omega
theorem own_r0 {r : Int64} {R : Nat} (h : r.toInt = R) (h0 : r = (0 : Int64)) : R = 0 := by
  rw [h0, show (0 : Int64).toInt = 0 from by decide] at h; omega
theorem own_r1 {r : Int64} {R : Nat} (h : r.toInt = R) (h0 : ¬ r = (0 : Int64)) : 0 < R := by
  rcases Nat.eq_zero_or_pos R with q | q
  · exact absurd (Int64.toInt_inj.mp (by rw [h, q]; rfl)) h0
  · exact q
theorem own_d {r d : Int64} {n : Int32} {R N : Nat} (hr : r.toInt = R) (hn : n.toInt = N) (hn2 : N < 2 ^ 31) (hr2 : R < N) (h : d = (((2 : Int64) * r) - n.toInt64)) : d.toInt = 2 * (R : Int) - N := by
  have c1 := c_lmul 2 r
  have c := c_lsub (2 * r) n.toInt64
  have r1 := rng64 (2 * r)
  have r2 := rng64 d
  rw [← h, c_i2l, hn] at c
  rw [hr, show (2 : Int64).toInt = 2 from by decide] at c1
  omega
theorem own_dl {d : Int64} {R N : Nat} (h : d.toInt = 2 * (R : Int) - N) (hd : d < (0 : Int64)) : 2 * R < N := by
  rw [Int64.lt_iff_toInt_lt, h, show (0 : Int64).toInt = 0 from by decide] at hd; omega
theorem own_de {d : Int64} {R N : Nat} (h : d.toInt = 2 * (R : Int) - N) (hd : d = (0 : Int64)) : 2 * R = N := by
  rw [hd, show (0 : Int64).toInt = 0 from by decide] at h; omega
theorem own_dg {d : Int64} {R N : Nat} (h : d.toInt = 2 * (R : Int) - N) (hd : ¬ d < (0 : Int64)) (he : ¬ d = (0 : Int64)) : N < 2 * R := by
  rw [Int64.lt_iff_toInt_lt, h, show (0 : Int64).toInt = 0 from by decide] at hd
  rw [← Int64.toInt_inj, h, show (0 : Int64).toInt = 0 from by decide] at he; omega
theorem own_c0 {a : Int64} {n : Int32} (h : n = (0 : Int32)) : cmpValue (FP.dcmp (own_load a n) (13830554455654793216 : UInt64)) .l = (0 : Int32) := by
  unfold own_load; rw [if_pos h]; decide +kernel
theorem own_c1 {a : Int64} {n : Int32} {N : Nat} (hN : n.toInt = N) (hg : ¬ (1 : Int32) < n) (h : ¬ n = (0 : Int32)) : cmpValue (FP.dcmp (own_load a n) (FP.l2d a)) .l = (0 : Int32) := by
  have e : n = 1 := by
    rw [← Int32.toInt_inj] at h ⊢
    rw [Int32.lt_iff_toInt_lt] at hg
    rw [hN] at h hg ⊢
    rw [show (1 : Int32).toInt = 1 from by decide] at hg ⊢
    rw [show (0 : Int32).toInt = 0 from by decide] at h
    omega
  subst e
  have e2 : FP.i2d 1 = Jvm.FP.Core.dconst1 := by decide +kernel
  have e3 : own_load a 1 = FP.l2d a := by
    unfold own_load; rw [if_neg h, e2]
    exact Jvm.FP.Core.ddiv_one (Jvm.FP.Core.DFin.ne_nan (Jvm.FP.Core.l2d_fin a))
  rw [e3]
  exact dcmpV_self (Jvm.Free.Fl.l2d_fin a).noNaN .l
theorem own_i {x i : Int32} (h : i = (x &&& (2147483647 : Int32))) : ∃ I : Nat, i.toInt = I := by
  have c := c_mask x 2147483647 31 (by decide) (by decide)
  rw [← h] at c
  exact ⟨i.toInt.toNat, by omega⟩
theorem own_i1 {i : Int32} {I : Nat} (h : i.toInt = I) : (i.toInt64 + (1 : Int64)).toInt = (I : Int) + 1 := by
  have r := rng32 i
  have c := c_ladd i.toInt64 1
  have r2 := rng64 (i.toInt64 + 1)
  rw [c_i2l, h, show (1 : Int64).toInt = 1 from by decide] at c; omega
theorem own_inz {i : Int32} {I : Nat} (h : i.toInt = I) : (i.toInt64 + (1 : Int64)) ≠ 0 := by
  intro q
  have c := own_i1 h
  rw [q, show (0 : Int64).toInt = 0 from by decide] at c; omega
theorem own_s {y i s : Int32} {I : Nat} (hi : i.toInt = I) (h : s = ((y.toInt64 &&& (2147483647 : Int64)) - (y.toInt64 &&& (2147483647 : Int64)) / (i.toInt64 + (1 : Int64)) * (i.toInt64 + (1 : Int64))).toInt32) : ∃ S : Nat, s.toInt = S ∧ S ≤ I := by
  have r := rng32 i
  have c1 := c_maskL y.toInt64 2147483647 31 (by decide) (by decide)
  have c2 := (c_lrem (y.toInt64 &&& (2147483647 : Int64)) (i.toInt64 + (1 : Int64)) _ (own_i1 hi)).1 (by rw [c1]; omega)
  have c3 := c_l2i ((y.toInt64 &&& (2147483647 : Int64)) - (y.toInt64 &&& (2147483647 : Int64)) / (i.toInt64 + (1 : Int64)) * (i.toInt64 + (1 : Int64)))
  rw [← h, c2, c1] at c3
  have r3 := rng32 s
  have m1 := Int.emod_nonneg (y.toInt64.toInt % ((2 ^ 31 : Nat) : Int)) (show (I : Int) + 1 ≠ 0 by omega)
  have m2 := Int.emod_lt_of_pos (y.toInt64.toInt % ((2 ^ 31 : Nat) : Int)) (show 0 < (I : Int) + 1 by omega)
  generalize y.toInt64.toInt % ((2 ^ 31 : Nat) : Int) % ((I : Int) + 1) = t at *
  exact ⟨s.toInt.toNat, by omega, by omega⟩
theorem own_im {i : Int32} {I : Nat} (hi : i.toInt = I) (h : (0 : Int32) < i) : ∃ S : Nat, (i - (1 : Int32)).toInt = S ∧ S ≤ I := by
  have r := rng32 i
  have c := c_isub i 1
  have r2 := rng32 (i - 1)
  rw [Int32.lt_iff_toInt_lt, hi, show (0 : Int32).toInt = 0 from by decide] at h
  rw [hi, show (1 : Int32).toInt = 1 from by decide] at c
  exact ⟨(i - 1).toInt.toNat, by omega, by omega⟩
theorem pd0_0 : parseMethodDescriptor "(IIJ)V" = some ⟨[.int, .int, .long], none⟩ := by decide +kernel
theorem pd0_1 : parseMethodDescriptor "()D" = some ⟨[], some .double⟩ := by decide +kernel
theorem pn0 : plainName "com/example/selvage/selvage/ZoneStatsLoadPerServerPinLaw" = true := by first | (simp [plainName, overriddenIn]; done) | decide +kernel
theorem ef0 (m : MethodId) (x0 : Int32) (x1 : Int32) (x2 : Int32) (x3 : Int32) (x4 : Int64) (x5 : Int32) : entryFrame m #[(.int x0), (.int x1), (.int x2), (.int x3), (.long x4), (.int x5)] maxLocals = mkF m 0 #[.val (.int x0), .val (.int x1), .val (.int x2), .val (.int x3), .val (.long x4), .second, .val (.int x5), .unset, .unset, .unset, .unset, .unset, .unset, .unset, .unset, .unset, .unset, .unset, .unset, .unset, .unset, .unset, .unset, .unset, .unset, .unset, .unset, .unset, .unset, .unset] [] := by first | (simp [entryFrame, mkF, argsToLocals, Value.category, maxLocals]; done) | rfl
def Q0 (Z : State) (x0 : Int32) (y0 : Int32) (k0 : Int32) (r0 : Int32) (v0 : Int64) (m0 : Int32) (h0 : Heap) (n0 : Nat) (v : Option Value) (h : Heap) (L : List Loc) : Prop := v = some (.int 1) ∧ Fr n0 L
set_option maxRecDepth 65536 in
set_option maxHeartbeats 40000000 in
theorem rm0 (l : Launch) (Z : State) (a0 : Array Value) (hw : ∀ d ∈ tables_1, d.before a0 Z = true) (ws : List Jvm.Cond) (x0 : Int32) (y0 : Int32) (k0 : Int32) (r0 : Int32) (v0 : Int64) (m0 : Int32) (h0 : Heap) (n0 : Nat) (Z0 : n0 ≤ h0.size) :
    MetFree l x (head1 (Jvm.Cond.code x code maxLocals ret :: ws) room_1) (fun aa U => aa = #[(.int x0), (.int y0), (.int k0), (.int r0), (.long v0), (.int m0)] ∧ Z.Warmed39 U.vm ∧ U.heap = h0) (fun _ _ _ _ _ => True) (fun _ UU oo UU' => ∃ vv LL, oo = .returned vv ∧ Q0 Z x0 y0 k0 r0 v0 m0 h0 n0 vv UU'.heap LL ∧ FrameEnd UU oo UU' LL room_1.cells room_1.slots) := by
  refine MetFree.of_bodySF (plainFor_of_name pn0) hisR ?_
  intro p e s m args below meth c s₁ Bd hml0 hP hK
  obtain ⟨rfl, hZ, hh⟩ := hP
  have hx := Bd.exec
  have hby := Bd.bytes
  have hml : c.maxLocals = 30 := hml0
  have hown : s.vm.findClass "com/example/selvage/selvage/ZoneStatsLoadPerServerPinLaw" = some m.cls := findClass_of_methodNamed Bd.named
  have hnm := (name_of_methodNamed Bd.named Bd.method).1
  have X0 : Stand p l e room_1 s m #[(.int x0), (.int y0), (.int k0), (.int r0), (.long v0), (.int m0)] below meth c s₁ [] 0 0 := Stand.of_body Bd
  have e0 : s₁.heap = h0 := by rw [← hh, Bd.state]; rfl
  have N0 := Fr.nil n0
  show Ends p e below (fun tt oo => ∃ vv LL, oo = .returned vv ∧ Q0 Z x0 y0 k0 r0 v0 m0 h0 n0 vv tt.heap LL ∧ FrameEnd s oo tt LL room_1.cells room_1.slots) (s₁.setTop (entryFrame m #[(.int x0), (.int y0), (.int k0), (.int r0), (.long v0), (.int m0)] maxLocals))
  refine Ends.pre (fun t k => castTop (ef0 m x0 y0 k0 r0 v0 m0) k) ?_
  show Ends p e below _ (s₁.setTop (mkF m 0 #[.val (.int x0), .val (.int y0), .val (.int k0), .val (.int r0), .val (.long v0), .second, .val (.int m0), .unset, .unset, .unset, .unset, .unset, .unset, .unset, .unset, .unset, .unset, .unset, .unset, .unset, .unset, .unset, .unset, .unset, .unset, .unset, .unset, .unset, .unset, .unset] []))
  have J56 : ∀ (i s0 mm : Int32) (I S : Nat), i.toInt = I → s0.toInt = S → S ≤ I → Ends p e below (fun t o => ∃ v L, o = .returned v ∧ Q0 Z x0 y0 k0 r0 v0 m0 h0 n0 v t.heap L ∧ FrameEnd s o t L room_1.cells room_1.slots) (s₁.setTop (mkF m 56 #[.val (.int x0), .val (.int y0), .val (.int k0), .val (.int r0), .val (.long v0), .second, .val (.int m0), .val (.int i), .val (.int s0), .val (.int mm), .unset, .unset, .unset, .unset, .unset, .unset, .unset, .unset, .unset, .unset, .unset, .unset, .unset, .unset, .unset, .unset, .unset, .unset, .unset, .unset] [])) := by
    intro i s0 mm I S hi hs hle
    have g1 : ¬ i < (0 : Int32) := own_nneg hi
    have g2 : ¬ s0 < (0 : Int32) := own_nneg hs
    have g3 : ¬ i < s0 := by rw [Int32.lt_iff_toInt_lt, hi, hs]; omega
    show Ends p e below _ (s₁.setTop (mkF m 56 #[.val (.int x0), .val (.int y0), .val (.int k0), .val (.int r0), .val (.long v0), .second, .val (.int m0), .val (.int i), .val (.int s0), .val (.int mm), .unset, .unset, .unset, .unset, .unset, .unset, .unset, .unset, .unset, .unset, .unset, .unset, .unset, .unset, .unset, .unset, .unset, .unset, .unset, .unset] []))
    refine Ends.pre (fun tt kt => XS.iload X0.here hx rfl (hb hby at_56) rfl kt) ?_
    show Ends p e below _ (s₁.setTop (mkF m 58 #[.val (.int x0), .val (.int y0), .val (.int k0), .val (.int r0), .val (.long v0), .second, .val (.int m0), .val (.int i), .val (.int s0), .val (.int mm), .unset, .unset, .unset, .unset, .unset, .unset, .unset, .unset, .unset, .unset, .unset, .unset, .unset, .unset, .unset, .unset, .unset, .unset, .unset, .unset] [(.int i)]))
    refine Ends.pre (fun tt kt => XS.iload X0.here hx rfl (hb hby at_58) rfl kt) ?_
    show Ends p e below _ (s₁.setTop (mkF m 60 #[.val (.int x0), .val (.int y0), .val (.int k0), .val (.int r0), .val (.long v0), .second, .val (.int m0), .val (.int i), .val (.int s0), .val (.int mm), .unset, .unset, .unset, .unset, .unset, .unset, .unset, .unset, .unset, .unset, .unset, .unset, .unset, .unset, .unset, .unset, .unset, .unset, .unset, .unset] [(.int s0), (.int i)]))
    refine Ends.pre (fun tt kt => XS.isub X0.here hx rfl (hb hby at_60) rfl kt) ?_
    show Ends p e below _ (s₁.setTop (mkF m 61 #[.val (.int x0), .val (.int y0), .val (.int k0), .val (.int r0), .val (.long v0), .second, .val (.int m0), .val (.int i), .val (.int s0), .val (.int mm), .unset, .unset, .unset, .unset, .unset, .unset, .unset, .unset, .unset, .unset, .unset, .unset, .unset, .unset, .unset, .unset, .unset, .unset, .unset, .unset] [(.int (i - s0))]))
    obtain ⟨n, hn⟩ : ∃ z, z = (i - s0) := ⟨_, rfl⟩
    rw [← hn]
    show Ends p e below _ (s₁.setTop (mkF m 61 #[.val (.int x0), .val (.int y0), .val (.int k0), .val (.int r0), .val (.long v0), .second, .val (.int m0), .val (.int i), .val (.int s0), .val (.int mm), .unset, .unset, .unset, .unset, .unset, .unset, .unset, .unset, .unset, .unset, .unset, .unset, .unset, .unset, .unset, .unset, .unset, .unset, .unset, .unset] [(.int n)]))
    obtain ⟨nN, hnN, hnlt⟩ := own_n hi hs hle hn
    refine Ends.pre (fun tt kt => XS.istore X0.here hx rfl (hb hby at_61) rfl (l' := #[.val (.int x0), .val (.int y0), .val (.int k0), .val (.int r0), .val (.long v0), .second, .val (.int m0), .val (.int i), .val (.int s0), .val (.int mm), .val (.int n), .unset, .unset, .unset, .unset, .unset, .unset, .unset, .unset, .unset, .unset, .unset, .unset, .unset, .unset, .unset, .unset, .unset, .unset, .unset]) rfl kt) ?_
    show Ends p e below _ (s₁.setTop (mkF m 63 #[.val (.int x0), .val (.int y0), .val (.int k0), .val (.int r0), .val (.long v0), .second, .val (.int m0), .val (.int i), .val (.int s0), .val (.int mm), .val (.int n), .unset, .unset, .unset, .unset, .unset, .unset, .unset, .unset, .unset, .unset, .unset, .unset, .unset, .unset, .unset, .unset, .unset, .unset, .unset] []))
    refine Ends.pre (fun tt kt => XS.iload X0.here hx rfl (hb hby at_63) rfl kt) ?_
    show Ends p e below _ (s₁.setTop (mkF m 65 #[.val (.int x0), .val (.int y0), .val (.int k0), .val (.int r0), .val (.long v0), .second, .val (.int m0), .val (.int i), .val (.int s0), .val (.int mm), .val (.int n), .unset, .unset, .unset, .unset, .unset, .unset, .unset, .unset, .unset, .unset, .unset, .unset, .unset, .unset, .unset, .unset, .unset, .unset, .unset] [(.int n)]))
    refine Ends.pre (fun tt kt => XS.iconst X0.here hx rfl (hb hby at_65) kt) ?_
    show Ends p e below _ (s₁.setTop (mkF m 66 #[.val (.int x0), .val (.int y0), .val (.int k0), .val (.int r0), .val (.long v0), .second, .val (.int m0), .val (.int i), .val (.int s0), .val (.int mm), .val (.int n), .unset, .unset, .unset, .unset, .unset, .unset, .unset, .unset, .unset, .unset, .unset, .unset, .unset, .unset, .unset, .unset, .unset, .unset, .unset] [(.int (1 : Int32)), (.int n)]))
    by_cases hgt : (1 : Int32) < n
    ·
      refine Ends.pre (fun tt kt => XS.icmpYes X0.here hx rfl (pc0 := 66) (pc' := 130) rfl (hb hby at_66) rfl (tlt hgt).2.2.1 (by decide) (by decide) kt) ?_
      show Ends p e below _ (s₁.setTop (mkF m 130 #[.val (.int x0), .val (.int y0), .val (.int k0), .val (.int r0), .val (.long v0), .second, .val (.int m0), .val (.int i), .val (.int s0), .val (.int mm), .val (.int n), .unset, .unset, .unset, .unset, .unset, .unset, .unset, .unset, .unset, .unset, .unset, .unset, .unset, .unset, .unset, .unset, .unset, .unset, .unset] []))
      refine Ends.pre (fun tt kt => XS.iloadN X0.here hx rfl (hb hby at_130) rfl kt) ?_
      show Ends p e below _ (s₁.setTop (mkF m 131 #[.val (.int x0), .val (.int y0), .val (.int k0), .val (.int r0), .val (.long v0), .second, .val (.int m0), .val (.int i), .val (.int s0), .val (.int mm), .val (.int n), .unset, .unset, .unset, .unset, .unset, .unset, .unset, .unset, .unset, .unset, .unset, .unset, .unset, .unset, .unset, .unset, .unset, .unset, .unset] [(.int k0)]))
      refine Ends.pre (fun tt kt => XS.i2l X0.here hx rfl (hb hby at_131) rfl kt) ?_
      show Ends p e below _ (s₁.setTop (mkF m 132 #[.val (.int x0), .val (.int y0), .val (.int k0), .val (.int r0), .val (.long v0), .second, .val (.int m0), .val (.int i), .val (.int s0), .val (.int mm), .val (.int n), .unset, .unset, .unset, .unset, .unset, .unset, .unset, .unset, .unset, .unset, .unset, .unset, .unset, .unset, .unset, .unset, .unset, .unset, .unset] [(.long (k0.toInt64))]))
      refine Ends.pre (fun tt kt => X0.ldc2Long hx hown (mvT hZ (hw _ (List.mem_of_getElem? (i := 35) rfl))) (g := (mkF m 132 #[.val (.int x0), .val (.int y0), .val (.int k0), .val (.int r0), .val (.long v0), .second, .val (.int m0), .val (.int i), .val (.int s0), .val (.int mm), .val (.int n), .unset, .unset, .unset, .unset, .unset, .unset, .unset, .unset, .unset, .unset, .unset, .unset, .unset, .unset, .unset, .unset, .unset, .unset, .unset] [(.long (k0.toInt64))])) rfl (hb hby at_132) _ kt) ?_
      show Ends p e below _ (s₁.setTop (mkF m 135 #[.val (.int x0), .val (.int y0), .val (.int k0), .val (.int r0), .val (.long v0), .second, .val (.int m0), .val (.int i), .val (.int s0), .val (.int mm), .val (.int n), .unset, .unset, .unset, .unset, .unset, .unset, .unset, .unset, .unset, .unset, .unset, .unset, .unset, .unset, .unset, .unset, .unset, .unset, .unset] [(.long (1048575 : Int64)), (.long (k0.toInt64))]))
      refine Ends.pre (fun tt kt => XS.land X0.here hx rfl (hb hby at_135) rfl kt) ?_
      show Ends p e below _ (s₁.setTop (mkF m 136 #[.val (.int x0), .val (.int y0), .val (.int k0), .val (.int r0), .val (.long v0), .second, .val (.int m0), .val (.int i), .val (.int s0), .val (.int mm), .val (.int n), .unset, .unset, .unset, .unset, .unset, .unset, .unset, .unset, .unset, .unset, .unset, .unset, .unset, .unset, .unset, .unset, .unset, .unset, .unset] [(.long ((k0.toInt64) &&& (1048575 : Int64)))]))
      obtain ⟨k, hk⟩ : ∃ z, z = ((k0.toInt64) &&& (1048575 : Int64)) := ⟨_, rfl⟩
      rw [← hk]
      show Ends p e below _ (s₁.setTop (mkF m 136 #[.val (.int x0), .val (.int y0), .val (.int k0), .val (.int r0), .val (.long v0), .second, .val (.int m0), .val (.int i), .val (.int s0), .val (.int mm), .val (.int n), .unset, .unset, .unset, .unset, .unset, .unset, .unset, .unset, .unset, .unset, .unset, .unset, .unset, .unset, .unset, .unset, .unset, .unset, .unset] [(.long k)]))
      obtain ⟨kN, hkN, hk20⟩ := own_k hk
      have hn2 := own_two hnN hgt
      refine Ends.pre (fun tt kt => XS.lstore X0.here hx rfl (hb hby at_136) rfl (l' := #[.val (.int x0), .val (.int y0), .val (.int k0), .val (.int r0), .val (.long v0), .second, .val (.int m0), .val (.int i), .val (.int s0), .val (.int mm), .val (.int n), .val (.long k), .second, .unset, .unset, .unset, .unset, .unset, .unset, .unset, .unset, .unset, .unset, .unset, .unset, .unset, .unset, .unset, .unset, .unset]) rfl kt) ?_
      show Ends p e below _ (s₁.setTop (mkF m 138 #[.val (.int x0), .val (.int y0), .val (.int k0), .val (.int r0), .val (.long v0), .second, .val (.int m0), .val (.int i), .val (.int s0), .val (.int mm), .val (.int n), .val (.long k), .second, .unset, .unset, .unset, .unset, .unset, .unset, .unset, .unset, .unset, .unset, .unset, .unset, .unset, .unset, .unset, .unset, .unset] []))
      refine Ends.pre (fun tt kt => XS.iloadN X0.here hx rfl (hb hby at_138) rfl kt) ?_
      show Ends p e below _ (s₁.setTop (mkF m 139 #[.val (.int x0), .val (.int y0), .val (.int k0), .val (.int r0), .val (.long v0), .second, .val (.int m0), .val (.int i), .val (.int s0), .val (.int mm), .val (.int n), .val (.long k), .second, .unset, .unset, .unset, .unset, .unset, .unset, .unset, .unset, .unset, .unset, .unset, .unset, .unset, .unset, .unset, .unset, .unset] [(.int r0)]))
      refine Ends.pre (fun tt kt => XS.i2l X0.here hx rfl (hb hby at_139) rfl kt) ?_
      show Ends p e below _ (s₁.setTop (mkF m 140 #[.val (.int x0), .val (.int y0), .val (.int k0), .val (.int r0), .val (.long v0), .second, .val (.int m0), .val (.int i), .val (.int s0), .val (.int mm), .val (.int n), .val (.long k), .second, .unset, .unset, .unset, .unset, .unset, .unset, .unset, .unset, .unset, .unset, .unset, .unset, .unset, .unset, .unset, .unset, .unset] [(.long (r0.toInt64))]))
      refine Ends.pre (fun tt kt => X0.ldc2Long hx hown (mvT hZ (hw _ (List.mem_of_getElem? (i := 1) rfl))) (g := (mkF m 140 #[.val (.int x0), .val (.int y0), .val (.int k0), .val (.int r0), .val (.long v0), .second, .val (.int m0), .val (.int i), .val (.int s0), .val (.int mm), .val (.int n), .val (.long k), .second, .unset, .unset, .unset, .unset, .unset, .unset, .unset, .unset, .unset, .unset, .unset, .unset, .unset, .unset, .unset, .unset, .unset] [(.long (r0.toInt64))])) rfl (hb hby at_140) _ kt) ?_
      show Ends p e below _ (s₁.setTop (mkF m 143 #[.val (.int x0), .val (.int y0), .val (.int k0), .val (.int r0), .val (.long v0), .second, .val (.int m0), .val (.int i), .val (.int s0), .val (.int mm), .val (.int n), .val (.long k), .second, .unset, .unset, .unset, .unset, .unset, .unset, .unset, .unset, .unset, .unset, .unset, .unset, .unset, .unset, .unset, .unset, .unset] [(.long (2147483647 : Int64)), (.long (r0.toInt64))]))
      refine Ends.pre (fun tt kt => XS.land X0.here hx rfl (hb hby at_143) rfl kt) ?_
      show Ends p e below _ (s₁.setTop (mkF m 144 #[.val (.int x0), .val (.int y0), .val (.int k0), .val (.int r0), .val (.long v0), .second, .val (.int m0), .val (.int i), .val (.int s0), .val (.int mm), .val (.int n), .val (.long k), .second, .unset, .unset, .unset, .unset, .unset, .unset, .unset, .unset, .unset, .unset, .unset, .unset, .unset, .unset, .unset, .unset, .unset] [(.long ((r0.toInt64) &&& (2147483647 : Int64)))]))
      refine Ends.pre (fun tt kt => XS.iload X0.here hx rfl (hb hby at_144) rfl kt) ?_
      show Ends p e below _ (s₁.setTop (mkF m 146 #[.val (.int x0), .val (.int y0), .val (.int k0), .val (.int r0), .val (.long v0), .second, .val (.int m0), .val (.int i), .val (.int s0), .val (.int mm), .val (.int n), .val (.long k), .second, .unset, .unset, .unset, .unset, .unset, .unset, .unset, .unset, .unset, .unset, .unset, .unset, .unset, .unset, .unset, .unset, .unset] [(.int n), (.long ((r0.toInt64) &&& (2147483647 : Int64)))]))
      refine Ends.pre (fun tt kt => XS.i2l X0.here hx rfl (hb hby at_146) rfl kt) ?_
      show Ends p e below _ (s₁.setTop (mkF m 147 #[.val (.int x0), .val (.int y0), .val (.int k0), .val (.int r0), .val (.long v0), .second, .val (.int m0), .val (.int i), .val (.int s0), .val (.int mm), .val (.int n), .val (.long k), .second, .unset, .unset, .unset, .unset, .unset, .unset, .unset, .unset, .unset, .unset, .unset, .unset, .unset, .unset, .unset, .unset, .unset] [(.long (n.toInt64)), (.long ((r0.toInt64) &&& (2147483647 : Int64)))]))
      refine Ends.pre (fun tt kt => XS.lrem X0.here hx rfl (hb hby at_147) rfl (own_nnz hnN hn2) kt) ?_
      show Ends p e below _ (s₁.setTop (mkF m 148 #[.val (.int x0), .val (.int y0), .val (.int k0), .val (.int r0), .val (.long v0), .second, .val (.int m0), .val (.int i), .val (.int s0), .val (.int mm), .val (.int n), .val (.long k), .second, .unset, .unset, .unset, .unset, .unset, .unset, .unset, .unset, .unset, .unset, .unset, .unset, .unset, .unset, .unset, .unset, .unset] [(.long (((r0.toInt64) &&& (2147483647 : Int64)) - ((r0.toInt64) &&& (2147483647 : Int64)) / (n.toInt64) * (n.toInt64)))]))
      obtain ⟨r, hr⟩ : ∃ z, z = (((r0.toInt64) &&& (2147483647 : Int64)) - ((r0.toInt64) &&& (2147483647 : Int64)) / (n.toInt64) * (n.toInt64)) := ⟨_, rfl⟩
      rw [← hr]
      show Ends p e below _ (s₁.setTop (mkF m 148 #[.val (.int x0), .val (.int y0), .val (.int k0), .val (.int r0), .val (.long v0), .second, .val (.int m0), .val (.int i), .val (.int s0), .val (.int mm), .val (.int n), .val (.long k), .second, .unset, .unset, .unset, .unset, .unset, .unset, .unset, .unset, .unset, .unset, .unset, .unset, .unset, .unset, .unset, .unset, .unset] [(.long r)]))
      obtain ⟨rN, hrN, hrlt⟩ := own_r hnN hn2 hr
      refine Ends.pre (fun tt kt => XS.lstore X0.here hx rfl (hb hby at_148) rfl (l' := #[.val (.int x0), .val (.int y0), .val (.int k0), .val (.int r0), .val (.long v0), .second, .val (.int m0), .val (.int i), .val (.int s0), .val (.int mm), .val (.int n), .val (.long k), .second, .val (.long r), .second, .unset, .unset, .unset, .unset, .unset, .unset, .unset, .unset, .unset, .unset, .unset, .unset, .unset, .unset, .unset]) rfl kt) ?_
      show Ends p e below _ (s₁.setTop (mkF m 150 #[.val (.int x0), .val (.int y0), .val (.int k0), .val (.int r0), .val (.long v0), .second, .val (.int m0), .val (.int i), .val (.int s0), .val (.int mm), .val (.int n), .val (.long k), .second, .val (.long r), .second, .unset, .unset, .unset, .unset, .unset, .unset, .unset, .unset, .unset, .unset, .unset, .unset, .unset, .unset, .unset] []))
      refine Ends.pre (fun tt kt => XS.lload X0.here hx rfl (hb hby at_150) rfl kt) ?_
      show Ends p e below _ (s₁.setTop (mkF m 152 #[.val (.int x0), .val (.int y0), .val (.int k0), .val (.int r0), .val (.long v0), .second, .val (.int m0), .val (.int i), .val (.int s0), .val (.int mm), .val (.int n), .val (.long k), .second, .val (.long r), .second, .unset, .unset, .unset, .unset, .unset, .unset, .unset, .unset, .unset, .unset, .unset, .unset, .unset, .unset, .unset] [(.long k)]))
      refine Ends.pre (fun tt kt => XS.iload X0.here hx rfl (hb hby at_152) rfl kt) ?_
      show Ends p e below _ (s₁.setTop (mkF m 154 #[.val (.int x0), .val (.int y0), .val (.int k0), .val (.int r0), .val (.long v0), .second, .val (.int m0), .val (.int i), .val (.int s0), .val (.int mm), .val (.int n), .val (.long k), .second, .val (.long r), .second, .unset, .unset, .unset, .unset, .unset, .unset, .unset, .unset, .unset, .unset, .unset, .unset, .unset, .unset, .unset] [(.int n), (.long k)]))
      refine Ends.pre (fun tt kt => XS.i2l X0.here hx rfl (hb hby at_154) rfl kt) ?_
      show Ends p e below _ (s₁.setTop (mkF m 155 #[.val (.int x0), .val (.int y0), .val (.int k0), .val (.int r0), .val (.long v0), .second, .val (.int m0), .val (.int i), .val (.int s0), .val (.int mm), .val (.int n), .val (.long k), .second, .val (.long r), .second, .unset, .unset, .unset, .unset, .unset, .unset, .unset, .unset, .unset, .unset, .unset, .unset, .unset, .unset, .unset] [(.long (n.toInt64)), (.long k)]))
      refine Ends.pre (fun tt kt => XS.lmul X0.here hx rfl (hb hby at_155) rfl kt) ?_
      show Ends p e below _ (s₁.setTop (mkF m 156 #[.val (.int x0), .val (.int y0), .val (.int k0), .val (.int r0), .val (.long v0), .second, .val (.int m0), .val (.int i), .val (.int s0), .val (.int mm), .val (.int n), .val (.long k), .second, .val (.long r), .second, .unset, .unset, .unset, .unset, .unset, .unset, .unset, .unset, .unset, .unset, .unset, .unset, .unset, .unset, .unset] [(.long (k * (n.toInt64)))]))
      refine Ends.pre (fun tt kt => XS.lload X0.here hx rfl (hb hby at_156) rfl kt) ?_
      show Ends p e below _ (s₁.setTop (mkF m 158 #[.val (.int x0), .val (.int y0), .val (.int k0), .val (.int r0), .val (.long v0), .second, .val (.int m0), .val (.int i), .val (.int s0), .val (.int mm), .val (.int n), .val (.long k), .second, .val (.long r), .second, .unset, .unset, .unset, .unset, .unset, .unset, .unset, .unset, .unset, .unset, .unset, .unset, .unset, .unset, .unset] [(.long r), (.long (k * (n.toInt64)))]))
      refine Ends.pre (fun tt kt => XS.ladd X0.here hx rfl (hb hby at_158) rfl kt) ?_
      show Ends p e below _ (s₁.setTop (mkF m 159 #[.val (.int x0), .val (.int y0), .val (.int k0), .val (.int r0), .val (.long v0), .second, .val (.int m0), .val (.int i), .val (.int s0), .val (.int mm), .val (.int n), .val (.long k), .second, .val (.long r), .second, .unset, .unset, .unset, .unset, .unset, .unset, .unset, .unset, .unset, .unset, .unset, .unset, .unset, .unset, .unset] [(.long ((k * (n.toInt64)) + r))]))
      obtain ⟨a, ha⟩ : ∃ z, z = ((k * (n.toInt64)) + r) := ⟨_, rfl⟩
      rw [← ha]
      show Ends p e below _ (s₁.setTop (mkF m 159 #[.val (.int x0), .val (.int y0), .val (.int k0), .val (.int r0), .val (.long v0), .second, .val (.int m0), .val (.int i), .val (.int s0), .val (.int mm), .val (.int n), .val (.long k), .second, .val (.long r), .second, .unset, .unset, .unset, .unset, .unset, .unset, .unset, .unset, .unset, .unset, .unset, .unset, .unset, .unset, .unset] [(.long a)]))
      have haN := own_a hkN hnN hrN hk20 hnlt hrlt ha
      refine Ends.pre (fun tt kt => XS.lstore X0.here hx rfl (hb hby at_159) rfl (l' := #[.val (.int x0), .val (.int y0), .val (.int k0), .val (.int r0), .val (.long v0), .second, .val (.int m0), .val (.int i), .val (.int s0), .val (.int mm), .val (.int n), .val (.long k), .second, .val (.long r), .second, .val (.long a), .second, .unset, .unset, .unset, .unset, .unset, .unset, .unset, .unset, .unset, .unset, .unset, .unset, .unset]) rfl kt) ?_
      show Ends p e below _ (s₁.setTop (mkF m 161 #[.val (.int x0), .val (.int y0), .val (.int k0), .val (.int r0), .val (.long v0), .second, .val (.int m0), .val (.int i), .val (.int s0), .val (.int mm), .val (.int n), .val (.long k), .second, .val (.long r), .second, .val (.long a), .second, .unset, .unset, .unset, .unset, .unset, .unset, .unset, .unset, .unset, .unset, .unset, .unset, .unset] []))
      obtain ⟨T10, h10, X10, e10, E10, A10, D10, -, st10⟩ := newO X0 hx hZ hown (hw _ (List.mem_of_getElem? (i := 3) rfl)) (hw _ (List.mem_of_getElem? (i := 4) rfl)) (hw _ (List.mem_of_getElem? (i := 5) rfl)) e0 (g := (mkF m 161 #[.val (.int x0), .val (.int y0), .val (.int k0), .val (.int r0), .val (.long v0), .second, .val (.int m0), .val (.int i), .val (.int s0), .val (.int mm), .val (.int n), .val (.long k), .second, .val (.long r), .second, .val (.long a), .second, .unset, .unset, .unset, .unset, .unset, .unset, .unset, .unset, .unset, .unset, .unset, .unset, .unset] [])) rfl (hb hby at_161) (by decide) (by decide)
      obtain ⟨b10, g10⟩ : ∃ z, z = h0.size := ⟨_, rfl⟩
      rw [← g10] at A10 D10 st10
      have g_b10 : n0 ≤ b10 := Nat.le_trans Z0 (Nat.le_of_eq g10.symm)
      have Z0 := Nat.le_trans Z0 E10.1
      have F_instances_b10 : Fld Z h10 b10 "com/example/selvage/selvage/ZoneStats" "instances" "I" (.int (0 : Int32)) := D10 (Or.inr (hw _ (List.mem_of_getElem? (i := 18) rfl))) (ty := .int) (by decide)
      have F_skipped_b10 : Fld Z h10 b10 "com/example/selvage/selvage/ZoneStats" "skipped" "I" (.int (0 : Int32)) := D10 (Or.inr (hw _ (List.mem_of_getElem? (i := 20) rfl))) (ty := .int) (by decide)
      have F_activeRequests_b10 : Fld Z h10 b10 "com/example/selvage/selvage/ZoneStats" "activeRequests" "J" (.long (0 : Int64)) := D10 (Or.inr (hw _ (List.mem_of_getElem? (i := 22) rfl))) (ty := .long) (by decide)
      have E_b10 := A10
      refine Ends.pre (fun tt kt => st10 _ kt) ?_
      show Ends p e below _ (T10.setTop (mkF m 164 #[.val (.int x0), .val (.int y0), .val (.int k0), .val (.int r0), .val (.long v0), .second, .val (.int m0), .val (.int i), .val (.int s0), .val (.int mm), .val (.int n), .val (.long k), .second, .val (.long r), .second, .val (.long a), .second, .unset, .unset, .unset, .unset, .unset, .unset, .unset, .unset, .unset, .unset, .unset, .unset, .unset] [(.ref b10)]))
      refine Ends.pre (fun tt kt => XS.dup X10.here hx rfl (hb hby at_164) rfl rfl kt) ?_
      show Ends p e below _ (T10.setTop (mkF m 165 #[.val (.int x0), .val (.int y0), .val (.int k0), .val (.int r0), .val (.long v0), .second, .val (.int m0), .val (.int i), .val (.int s0), .val (.int mm), .val (.int n), .val (.long k), .second, .val (.long r), .second, .val (.long a), .second, .unset, .unset, .unset, .unset, .unset, .unset, .unset, .unset, .unset, .unset, .unset, .unset, .unset] [(.ref b10), (.ref b10)]))
      refine Ends.pre (fun tt kt => XS.iload X10.here hx rfl (hb hby at_165) rfl kt) ?_
      show Ends p e below _ (T10.setTop (mkF m 167 #[.val (.int x0), .val (.int y0), .val (.int k0), .val (.int r0), .val (.long v0), .second, .val (.int m0), .val (.int i), .val (.int s0), .val (.int mm), .val (.int n), .val (.long k), .second, .val (.long r), .second, .val (.long a), .second, .unset, .unset, .unset, .unset, .unset, .unset, .unset, .unset, .unset, .unset, .unset, .unset, .unset] [(.int i), (.ref b10), (.ref b10)]))
      refine Ends.pre (fun tt kt => XS.iload X10.here hx rfl (hb hby at_167) rfl kt) ?_
      show Ends p e below _ (T10.setTop (mkF m 169 #[.val (.int x0), .val (.int y0), .val (.int k0), .val (.int r0), .val (.long v0), .second, .val (.int m0), .val (.int i), .val (.int s0), .val (.int mm), .val (.int n), .val (.long k), .second, .val (.long r), .second, .val (.long a), .second, .unset, .unset, .unset, .unset, .unset, .unset, .unset, .unset, .unset, .unset, .unset, .unset, .unset] [(.int s0), (.int i), (.ref b10), (.ref b10)]))
      refine Ends.pre (fun tt kt => XS.lload X10.here hx rfl (hb hby at_169) rfl kt) ?_
      show Ends p e below _ (T10.setTop (mkF m 171 #[.val (.int x0), .val (.int y0), .val (.int k0), .val (.int r0), .val (.long v0), .second, .val (.int m0), .val (.int i), .val (.int s0), .val (.int mm), .val (.int n), .val (.long k), .second, .val (.long r), .second, .val (.long a), .second, .unset, .unset, .unset, .unset, .unset, .unset, .unset, .unset, .unset, .unset, .unset, .unset, .unset] [(.long a), (.int s0), (.int i), (.ref b10), (.ref b10)]))
      obtain ⟨_, _, ⟨T11, L11, k11, n11⟩, -, X11, ⟨Lc11, hQ11, l11, y11, z11⟩, st11⟩ := X10.specialBack hx (y := (⟨"com/example/selvage/selvage/ZoneStats", "<init>", "(IIJ)V"⟩ : MethodName)) rfl hown (mvT hZ (hw _ (List.mem_of_getElem? (i := 6) rfl))) (mvT hZ (hw _ (List.mem_of_getElem? (i := 7) rfl))) (mvT hZ (hw _ (List.mem_of_getElem? (i := 8) rfl))) (by decide) (backOf (W := 1) (rm2 l Z a0 hw [] b10 i s0 a h10 n0 Z0 F_instances_b10 F_skipped_b10 F_activeRequests_b10 E_b10 g_b10 g1 g2 g3 (own_nnegL haN)) hZ (hw _ (List.mem_of_getElem? (i := 8) rfl)) (hw _ (List.mem_of_getElem? (i := 5) rfl)) (by decide) (by decide)) (g := (mkF m 171 #[.val (.int x0), .val (.int y0), .val (.int k0), .val (.int r0), .val (.long v0), .second, .val (.int m0), .val (.int i), .val (.int s0), .val (.int mm), .val (.int n), .val (.long k), .second, .val (.long r), .second, .val (.long a), .second, .unset, .unset, .unset, .unset, .unset, .unset, .unset, .unset, .unset, .unset, .unset, .unset, .unset] [(.long a), (.int s0), (.int i), (.ref b10), (.ref b10)])) rfl (by rw [hml]; rfl) (Steps.refl _) (a := b10) (argsL := [(.int i), (.int s0), (.long a)]) (rest := [(.ref b10)]) (lenOf pd0_0 rfl) rfl (by show 2 * 0 + _ ≤ _; exact Nat.le_of_eq rfl) (hb hby at_171) (fun _ _ => ⟨rfl, e10, (show (1 : Nat) + (0 : Nat) ≤ _ from by decide), (show (3 : Nat) + (0 : Nat) ≤ _ from by decide)⟩)
      dsimp only [Pt.U, Pt.locs, Pt.cells, Pt.slots] at X11 l11 y11 z11 st11 hQ11
      subst l11 y11 z11
      obtain ⟨rfl, N11q, K11, G11_0, G11_1, G11_2, G11_3⟩ := hQ11
      have Z0 := Nat.le_trans Z0 K11.1
      have E_b10 := G11_0
      have F_instances_b10 := G11_1
      have F_skipped_b10 := G11_2
      have F_activeRequests_b10 := G11_3
      have N11 := Fr.app N0 N11q
      refine Ends.pre (fun tt kt => st11.trans kt) ?_
      show Ends p e below _ (T11.setTop (mkF m 174 #[.val (.int x0), .val (.int y0), .val (.int k0), .val (.int r0), .val (.long v0), .second, .val (.int m0), .val (.int i), .val (.int s0), .val (.int mm), .val (.int n), .val (.long k), .second, .val (.long r), .second, .val (.long a), .second, .unset, .unset, .unset, .unset, .unset, .unset, .unset, .unset, .unset, .unset, .unset, .unset, .unset] [(.ref b10)]))
      obtain ⟨cq12, kq12, q12a, q12b, q12c⟩ := isOf hZ rfl E_b10
      obtain ⟨_, _, ⟨T12, L12, k12, n12⟩, -, X12, ⟨Lc12, hQ12, l12, y12, z12⟩, st12⟩ := X11.virtualBack hx (y := (⟨"com/example/selvage/selvage/ZoneStats", "loadPerServer", "()D"⟩ : MethodName)) (z := (⟨"com/example/selvage/selvage/ZoneStats", "loadPerServer", "()D"⟩ : MethodName)) hown (mvT hZ (hw _ (List.mem_of_getElem? (i := 23) rfl))) (mvT hZ (hw _ (List.mem_of_getElem? (i := 24) rfl))) (notFace_of_selects (args := #[]) (mvT hZ (hw _ (List.mem_of_getElem? (i := 26) rfl)))) (mvT hZ (hw _ (List.mem_of_getElem? (i := 26) rfl))) (mvT hZ (hw _ (List.mem_of_getElem? (i := 25) rfl))) (by decide) (backOf (W := 0) (rm4 l Z a0 hw [] b10 i s0 a T11.heap n0 Z0 F_instances_b10 F_skipped_b10 F_activeRequests_b10 E_b10) hZ (hw _ (List.mem_of_getElem? (i := 27) rfl)) (hw _ (List.mem_of_getElem? (i := 5) rfl)) (by decide) (by decide)) q12a q12c (g := (mkF m 174 #[.val (.int x0), .val (.int y0), .val (.int k0), .val (.int r0), .val (.long v0), .second, .val (.int m0), .val (.int i), .val (.int s0), .val (.int mm), .val (.int n), .val (.long k), .second, .val (.long r), .second, .val (.long a), .second, .unset, .unset, .unset, .unset, .unset, .unset, .unset, .unset, .unset, .unset, .unset, .unset, .unset] [(.ref b10)])) rfl (by rw [hml]; rfl) (Steps.refl _) (argsL := []) (rest := []) (lenOf pd0_1 rfl) rfl (by show 2 * 0 + _ ≤ _; exact Nat.le_of_eq rfl) (hb hby at_174) (fun _ _ => ⟨rfl, rfl, (show (1 : Nat) + (0 : Nat) ≤ _ from by decide), (show (3 : Nat) + (0 : Nat) ≤ _ from by decide)⟩)
      dsimp only [Pt.U, Pt.locs, Pt.cells, Pt.slots] at X12 l12 y12 z12 st12 hQ12
      subst l12 y12 z12
      obtain ⟨rfl, N12q, e12⟩ := hQ12
      have N12 := Fr.app N11 N12q
      refine Ends.pre (fun tt kt => st12.trans kt) ?_
      show Ends p e below _ (T12.setTop (mkF m 177 #[.val (.int x0), .val (.int y0), .val (.int k0), .val (.int r0), .val (.long v0), .second, .val (.int m0), .val (.int i), .val (.int s0), .val (.int mm), .val (.int n), .val (.long k), .second, .val (.long r), .second, .val (.long a), .second, .unset, .unset, .unset, .unset, .unset, .unset, .unset, .unset, .unset, .unset, .unset, .unset, .unset] [(.double (own_load a (i - s0)))]))
      rw [← hn, own_ld (own_nnz32 hnN hn2)]
      show Ends p e below _ (T12.setTop (mkF m 177 #[.val (.int x0), .val (.int y0), .val (.int k0), .val (.int r0), .val (.long v0), .second, .val (.int m0), .val (.int i), .val (.int s0), .val (.int mm), .val (.int n), .val (.long k), .second, .val (.long r), .second, .val (.long a), .second, .unset, .unset, .unset, .unset, .unset, .unset, .unset, .unset, .unset, .unset, .unset, .unset, .unset] [(.double (FP.ddiv (FP.l2d a) (FP.i2d n)))]))
      obtain ⟨z, hz, hzb, zr0, zr1, zl, ze, zg⟩ := own_z hk20 hn2 hnlt hrlt haN hnN
      obtain ⟨rs, hrs⟩ : ∃ z, z = (FP.ddiv (FP.l2d a) (FP.i2d n)) := ⟨_, rfl⟩
      rw [← hrs] at hz ⊢
      show Ends p e below _ (T12.setTop (mkF m 177 #[.val (.int x0), .val (.int y0), .val (.int k0), .val (.int r0), .val (.long v0), .second, .val (.int m0), .val (.int i), .val (.int s0), .val (.int mm), .val (.int n), .val (.long k), .second, .val (.long r), .second, .val (.long a), .second, .unset, .unset, .unset, .unset, .unset, .unset, .unset, .unset, .unset, .unset, .unset, .unset, .unset] [(.double rs)]))
      have nk := own_l2d hkN (by omega)
      have nk1 := own_l2d (own_k1 hkN hk20) (by omega)
      have nm := own_l2d (own_mid hkN hk20) (by omega)
      have nt := own_twice hz hzb
      refine Ends.pre (fun tt kt => XS.dstore X12.here hx rfl (hb hby at_177) rfl (l' := #[.val (.int x0), .val (.int y0), .val (.int k0), .val (.int r0), .val (.long v0), .second, .val (.int m0), .val (.int i), .val (.int s0), .val (.int mm), .val (.int n), .val (.long k), .second, .val (.long r), .second, .val (.long a), .second, .val (.double rs), .second, .unset, .unset, .unset, .unset, .unset, .unset, .unset, .unset, .unset, .unset, .unset]) rfl kt) ?_
      show Ends p e below _ (T12.setTop (mkF m 179 #[.val (.int x0), .val (.int y0), .val (.int k0), .val (.int r0), .val (.long v0), .second, .val (.int m0), .val (.int i), .val (.int s0), .val (.int mm), .val (.int n), .val (.long k), .second, .val (.long r), .second, .val (.long a), .second, .val (.double rs), .second, .unset, .unset, .unset, .unset, .unset, .unset, .unset, .unset, .unset, .unset, .unset] []))
      refine Ends.pre (fun tt kt => XS.lload X12.here hx rfl (hb hby at_179) rfl kt) ?_
      show Ends p e below _ (T12.setTop (mkF m 181 #[.val (.int x0), .val (.int y0), .val (.int k0), .val (.int r0), .val (.long v0), .second, .val (.int m0), .val (.int i), .val (.int s0), .val (.int mm), .val (.int n), .val (.long k), .second, .val (.long r), .second, .val (.long a), .second, .val (.double rs), .second, .unset, .unset, .unset, .unset, .unset, .unset, .unset, .unset, .unset, .unset, .unset] [(.long k)]))
      refine Ends.pre (fun tt kt => XS.l2dS X12.here hx rfl (v := (FP.l2d k)) (hb hby at_181) rfl rfl kt) ?_
      show Ends p e below _ (T12.setTop (mkF m 182 #[.val (.int x0), .val (.int y0), .val (.int k0), .val (.int r0), .val (.long v0), .second, .val (.int m0), .val (.int i), .val (.int s0), .val (.int mm), .val (.int n), .val (.long k), .second, .val (.long r), .second, .val (.long a), .second, .val (.double rs), .second, .unset, .unset, .unset, .unset, .unset, .unset, .unset, .unset, .unset, .unset, .unset] [(.double (FP.l2d k))]))
      refine Ends.pre (fun tt kt => XS.dstore X12.here hx rfl (hb hby at_182) rfl (l' := #[.val (.int x0), .val (.int y0), .val (.int k0), .val (.int r0), .val (.long v0), .second, .val (.int m0), .val (.int i), .val (.int s0), .val (.int mm), .val (.int n), .val (.long k), .second, .val (.long r), .second, .val (.long a), .second, .val (.double rs), .second, .val (.double (FP.l2d k)), .second, .unset, .unset, .unset, .unset, .unset, .unset, .unset, .unset, .unset]) rfl kt) ?_
      show Ends p e below _ (T12.setTop (mkF m 184 #[.val (.int x0), .val (.int y0), .val (.int k0), .val (.int r0), .val (.long v0), .second, .val (.int m0), .val (.int i), .val (.int s0), .val (.int mm), .val (.int n), .val (.long k), .second, .val (.long r), .second, .val (.long a), .second, .val (.double rs), .second, .val (.double (FP.l2d k)), .second, .unset, .unset, .unset, .unset, .unset, .unset, .unset, .unset, .unset] []))
      refine Ends.pre (fun tt kt => XS.lload X12.here hx rfl (hb hby at_184) rfl kt) ?_
      show Ends p e below _ (T12.setTop (mkF m 186 #[.val (.int x0), .val (.int y0), .val (.int k0), .val (.int r0), .val (.long v0), .second, .val (.int m0), .val (.int i), .val (.int s0), .val (.int mm), .val (.int n), .val (.long k), .second, .val (.long r), .second, .val (.long a), .second, .val (.double rs), .second, .val (.double (FP.l2d k)), .second, .unset, .unset, .unset, .unset, .unset, .unset, .unset, .unset, .unset] [(.long k)]))
      refine Ends.pre (fun tt kt => XS.lconst X12.here hx rfl (hb hby at_186) kt) ?_
      show Ends p e below _ (T12.setTop (mkF m 187 #[.val (.int x0), .val (.int y0), .val (.int k0), .val (.int r0), .val (.long v0), .second, .val (.int m0), .val (.int i), .val (.int s0), .val (.int mm), .val (.int n), .val (.long k), .second, .val (.long r), .second, .val (.long a), .second, .val (.double rs), .second, .val (.double (FP.l2d k)), .second, .unset, .unset, .unset, .unset, .unset, .unset, .unset, .unset, .unset] [(.long (1 : Int64)), (.long k)]))
      refine Ends.pre (fun tt kt => XS.ladd X12.here hx rfl (hb hby at_187) rfl kt) ?_
      show Ends p e below _ (T12.setTop (mkF m 188 #[.val (.int x0), .val (.int y0), .val (.int k0), .val (.int r0), .val (.long v0), .second, .val (.int m0), .val (.int i), .val (.int s0), .val (.int mm), .val (.int n), .val (.long k), .second, .val (.long r), .second, .val (.long a), .second, .val (.double rs), .second, .val (.double (FP.l2d k)), .second, .unset, .unset, .unset, .unset, .unset, .unset, .unset, .unset, .unset] [(.long (k + (1 : Int64)))]))
      refine Ends.pre (fun tt kt => XS.l2dS X12.here hx rfl (v := (FP.l2d (k + (1 : Int64)))) (hb hby at_188) rfl rfl kt) ?_
      show Ends p e below _ (T12.setTop (mkF m 189 #[.val (.int x0), .val (.int y0), .val (.int k0), .val (.int r0), .val (.long v0), .second, .val (.int m0), .val (.int i), .val (.int s0), .val (.int mm), .val (.int n), .val (.long k), .second, .val (.long r), .second, .val (.long a), .second, .val (.double rs), .second, .val (.double (FP.l2d k)), .second, .unset, .unset, .unset, .unset, .unset, .unset, .unset, .unset, .unset] [(.double (FP.l2d (k + (1 : Int64))))]))
      refine Ends.pre (fun tt kt => XS.dstore X12.here hx rfl (hb hby at_189) rfl (l' := #[.val (.int x0), .val (.int y0), .val (.int k0), .val (.int r0), .val (.long v0), .second, .val (.int m0), .val (.int i), .val (.int s0), .val (.int mm), .val (.int n), .val (.long k), .second, .val (.long r), .second, .val (.long a), .second, .val (.double rs), .second, .val (.double (FP.l2d k)), .second, .val (.double (FP.l2d (k + (1 : Int64)))), .second, .unset, .unset, .unset, .unset, .unset, .unset, .unset]) rfl kt) ?_
      show Ends p e below _ (T12.setTop (mkF m 191 #[.val (.int x0), .val (.int y0), .val (.int k0), .val (.int r0), .val (.long v0), .second, .val (.int m0), .val (.int i), .val (.int s0), .val (.int mm), .val (.int n), .val (.long k), .second, .val (.long r), .second, .val (.long a), .second, .val (.double rs), .second, .val (.double (FP.l2d k)), .second, .val (.double (FP.l2d (k + (1 : Int64)))), .second, .unset, .unset, .unset, .unset, .unset, .unset, .unset] []))
      refine Ends.pre (fun tt kt => X12.ldc2DoubleC hx hown (mvT hZ (hw _ (List.mem_of_getElem? (i := 36) rfl))) (g := (mkF m 191 #[.val (.int x0), .val (.int y0), .val (.int k0), .val (.int r0), .val (.long v0), .second, .val (.int m0), .val (.int i), .val (.int s0), .val (.int mm), .val (.int n), .val (.long k), .second, .val (.long r), .second, .val (.long a), .second, .val (.double rs), .second, .val (.double (FP.l2d k)), .second, .val (.double (FP.l2d (k + (1 : Int64)))), .second, .unset, .unset, .unset, .unset, .unset, .unset, .unset] [])) rfl (hb hby at_191) _ kt) ?_
      show Ends p e below _ (T12.setTop (mkF m 194 #[.val (.int x0), .val (.int y0), .val (.int k0), .val (.int r0), .val (.long v0), .second, .val (.int m0), .val (.int i), .val (.int s0), .val (.int mm), .val (.int n), .val (.long k), .second, .val (.long r), .second, .val (.long a), .second, .val (.double rs), .second, .val (.double (FP.l2d k)), .second, .val (.double (FP.l2d (k + (1 : Int64)))), .second, .unset, .unset, .unset, .unset, .unset, .unset, .unset] [(.double (4611686018427387904 : UInt64))]))
      refine Ends.pre (fun tt kt => XS.dload X12.here hx rfl (hb hby at_194) rfl kt) ?_
      show Ends p e below _ (T12.setTop (mkF m 196 #[.val (.int x0), .val (.int y0), .val (.int k0), .val (.int r0), .val (.long v0), .second, .val (.int m0), .val (.int i), .val (.int s0), .val (.int mm), .val (.int n), .val (.long k), .second, .val (.long r), .second, .val (.long a), .second, .val (.double rs), .second, .val (.double (FP.l2d k)), .second, .val (.double (FP.l2d (k + (1 : Int64)))), .second, .unset, .unset, .unset, .unset, .unset, .unset, .unset] [(.double rs), (.double (4611686018427387904 : UInt64))]))
      refine Ends.pre (fun tt kt => XS.dmulS X12.here hx rfl (v := (FP.dmul (4611686018427387904 : UInt64) rs)) (hb hby at_196) rfl nt.noNaN rfl kt) ?_
      show Ends p e below _ (T12.setTop (mkF m 197 #[.val (.int x0), .val (.int y0), .val (.int k0), .val (.int r0), .val (.long v0), .second, .val (.int m0), .val (.int i), .val (.int s0), .val (.int mm), .val (.int n), .val (.long k), .second, .val (.long r), .second, .val (.long a), .second, .val (.double rs), .second, .val (.double (FP.l2d k)), .second, .val (.double (FP.l2d (k + (1 : Int64)))), .second, .unset, .unset, .unset, .unset, .unset, .unset, .unset] [(.double (FP.dmul (4611686018427387904 : UInt64) rs))]))
      refine Ends.pre (fun tt kt => XS.dstore X12.here hx rfl (hb hby at_197) rfl (l' := #[.val (.int x0), .val (.int y0), .val (.int k0), .val (.int r0), .val (.long v0), .second, .val (.int m0), .val (.int i), .val (.int s0), .val (.int mm), .val (.int n), .val (.long k), .second, .val (.long r), .second, .val (.long a), .second, .val (.double rs), .second, .val (.double (FP.l2d k)), .second, .val (.double (FP.l2d (k + (1 : Int64)))), .second, .val (.double (FP.dmul (4611686018427387904 : UInt64) rs)), .second, .unset, .unset, .unset, .unset, .unset]) rfl kt) ?_
      show Ends p e below _ (T12.setTop (mkF m 199 #[.val (.int x0), .val (.int y0), .val (.int k0), .val (.int r0), .val (.long v0), .second, .val (.int m0), .val (.int i), .val (.int s0), .val (.int mm), .val (.int n), .val (.long k), .second, .val (.long r), .second, .val (.long a), .second, .val (.double rs), .second, .val (.double (FP.l2d k)), .second, .val (.double (FP.l2d (k + (1 : Int64)))), .second, .val (.double (FP.dmul (4611686018427387904 : UInt64) rs)), .second, .unset, .unset, .unset, .unset, .unset] []))
      refine Ends.pre (fun tt kt => X12.ldc2Long hx hown (mvT hZ (hw _ (List.mem_of_getElem? (i := 37) rfl))) (g := (mkF m 199 #[.val (.int x0), .val (.int y0), .val (.int k0), .val (.int r0), .val (.long v0), .second, .val (.int m0), .val (.int i), .val (.int s0), .val (.int mm), .val (.int n), .val (.long k), .second, .val (.long r), .second, .val (.long a), .second, .val (.double rs), .second, .val (.double (FP.l2d k)), .second, .val (.double (FP.l2d (k + (1 : Int64)))), .second, .val (.double (FP.dmul (4611686018427387904 : UInt64) rs)), .second, .unset, .unset, .unset, .unset, .unset] [])) rfl (hb hby at_199) _ kt) ?_
      show Ends p e below _ (T12.setTop (mkF m 202 #[.val (.int x0), .val (.int y0), .val (.int k0), .val (.int r0), .val (.long v0), .second, .val (.int m0), .val (.int i), .val (.int s0), .val (.int mm), .val (.int n), .val (.long k), .second, .val (.long r), .second, .val (.long a), .second, .val (.double rs), .second, .val (.double (FP.l2d k)), .second, .val (.double (FP.l2d (k + (1 : Int64)))), .second, .val (.double (FP.dmul (4611686018427387904 : UInt64) rs)), .second, .unset, .unset, .unset, .unset, .unset] [(.long (2 : Int64))]))
      refine Ends.pre (fun tt kt => XS.lload X12.here hx rfl (hb hby at_202) rfl kt) ?_
      show Ends p e below _ (T12.setTop (mkF m 204 #[.val (.int x0), .val (.int y0), .val (.int k0), .val (.int r0), .val (.long v0), .second, .val (.int m0), .val (.int i), .val (.int s0), .val (.int mm), .val (.int n), .val (.long k), .second, .val (.long r), .second, .val (.long a), .second, .val (.double rs), .second, .val (.double (FP.l2d k)), .second, .val (.double (FP.l2d (k + (1 : Int64)))), .second, .val (.double (FP.dmul (4611686018427387904 : UInt64) rs)), .second, .unset, .unset, .unset, .unset, .unset] [(.long k), (.long (2 : Int64))]))
      refine Ends.pre (fun tt kt => XS.lmul X12.here hx rfl (hb hby at_204) rfl kt) ?_
      show Ends p e below _ (T12.setTop (mkF m 205 #[.val (.int x0), .val (.int y0), .val (.int k0), .val (.int r0), .val (.long v0), .second, .val (.int m0), .val (.int i), .val (.int s0), .val (.int mm), .val (.int n), .val (.long k), .second, .val (.long r), .second, .val (.long a), .second, .val (.double rs), .second, .val (.double (FP.l2d k)), .second, .val (.double (FP.l2d (k + (1 : Int64)))), .second, .val (.double (FP.dmul (4611686018427387904 : UInt64) rs)), .second, .unset, .unset, .unset, .unset, .unset] [(.long ((2 : Int64) * k))]))
      refine Ends.pre (fun tt kt => XS.lconst X12.here hx rfl (hb hby at_205) kt) ?_
      show Ends p e below _ (T12.setTop (mkF m 206 #[.val (.int x0), .val (.int y0), .val (.int k0), .val (.int r0), .val (.long v0), .second, .val (.int m0), .val (.int i), .val (.int s0), .val (.int mm), .val (.int n), .val (.long k), .second, .val (.long r), .second, .val (.long a), .second, .val (.double rs), .second, .val (.double (FP.l2d k)), .second, .val (.double (FP.l2d (k + (1 : Int64)))), .second, .val (.double (FP.dmul (4611686018427387904 : UInt64) rs)), .second, .unset, .unset, .unset, .unset, .unset] [(.long (1 : Int64)), (.long ((2 : Int64) * k))]))
      refine Ends.pre (fun tt kt => XS.ladd X12.here hx rfl (hb hby at_206) rfl kt) ?_
      show Ends p e below _ (T12.setTop (mkF m 207 #[.val (.int x0), .val (.int y0), .val (.int k0), .val (.int r0), .val (.long v0), .second, .val (.int m0), .val (.int i), .val (.int s0), .val (.int mm), .val (.int n), .val (.long k), .second, .val (.long r), .second, .val (.long a), .second, .val (.double rs), .second, .val (.double (FP.l2d k)), .second, .val (.double (FP.l2d (k + (1 : Int64)))), .second, .val (.double (FP.dmul (4611686018427387904 : UInt64) rs)), .second, .unset, .unset, .unset, .unset, .unset] [(.long (((2 : Int64) * k) + (1 : Int64)))]))
      refine Ends.pre (fun tt kt => XS.l2dS X12.here hx rfl (v := (FP.l2d (((2 : Int64) * k) + (1 : Int64)))) (hb hby at_207) rfl rfl kt) ?_
      show Ends p e below _ (T12.setTop (mkF m 208 #[.val (.int x0), .val (.int y0), .val (.int k0), .val (.int r0), .val (.long v0), .second, .val (.int m0), .val (.int i), .val (.int s0), .val (.int mm), .val (.int n), .val (.long k), .second, .val (.long r), .second, .val (.long a), .second, .val (.double rs), .second, .val (.double (FP.l2d k)), .second, .val (.double (FP.l2d (k + (1 : Int64)))), .second, .val (.double (FP.dmul (4611686018427387904 : UInt64) rs)), .second, .unset, .unset, .unset, .unset, .unset] [(.double (FP.l2d (((2 : Int64) * k) + (1 : Int64))))]))
      refine Ends.pre (fun tt kt => XS.dstore X12.here hx rfl (hb hby at_208) rfl (l' := #[.val (.int x0), .val (.int y0), .val (.int k0), .val (.int r0), .val (.long v0), .second, .val (.int m0), .val (.int i), .val (.int s0), .val (.int mm), .val (.int n), .val (.long k), .second, .val (.long r), .second, .val (.long a), .second, .val (.double rs), .second, .val (.double (FP.l2d k)), .second, .val (.double (FP.l2d (k + (1 : Int64)))), .second, .val (.double (FP.dmul (4611686018427387904 : UInt64) rs)), .second, .val (.double (FP.l2d (((2 : Int64) * k) + (1 : Int64)))), .second, .unset, .unset, .unset]) rfl kt) ?_
      show Ends p e below _ (T12.setTop (mkF m 210 #[.val (.int x0), .val (.int y0), .val (.int k0), .val (.int r0), .val (.long v0), .second, .val (.int m0), .val (.int i), .val (.int s0), .val (.int mm), .val (.int n), .val (.long k), .second, .val (.long r), .second, .val (.long a), .second, .val (.double rs), .second, .val (.double (FP.l2d k)), .second, .val (.double (FP.l2d (k + (1 : Int64)))), .second, .val (.double (FP.dmul (4611686018427387904 : UInt64) rs)), .second, .val (.double (FP.l2d (((2 : Int64) * k) + (1 : Int64)))), .second, .unset, .unset, .unset] []))
      refine Ends.pre (fun tt kt => XS.lload X12.here hx rfl (hb hby at_210) rfl kt) ?_
      show Ends p e below _ (T12.setTop (mkF m 212 #[.val (.int x0), .val (.int y0), .val (.int k0), .val (.int r0), .val (.long v0), .second, .val (.int m0), .val (.int i), .val (.int s0), .val (.int mm), .val (.int n), .val (.long k), .second, .val (.long r), .second, .val (.long a), .second, .val (.double rs), .second, .val (.double (FP.l2d k)), .second, .val (.double (FP.l2d (k + (1 : Int64)))), .second, .val (.double (FP.dmul (4611686018427387904 : UInt64) rs)), .second, .val (.double (FP.l2d (((2 : Int64) * k) + (1 : Int64)))), .second, .unset, .unset, .unset] [(.long r)]))
      refine Ends.pre (fun tt kt => XS.lconst X12.here hx rfl (hb hby at_212) kt) ?_
      show Ends p e below _ (T12.setTop (mkF m 213 #[.val (.int x0), .val (.int y0), .val (.int k0), .val (.int r0), .val (.long v0), .second, .val (.int m0), .val (.int i), .val (.int s0), .val (.int mm), .val (.int n), .val (.long k), .second, .val (.long r), .second, .val (.long a), .second, .val (.double rs), .second, .val (.double (FP.l2d k)), .second, .val (.double (FP.l2d (k + (1 : Int64)))), .second, .val (.double (FP.dmul (4611686018427387904 : UInt64) rs)), .second, .val (.double (FP.l2d (((2 : Int64) * k) + (1 : Int64)))), .second, .unset, .unset, .unset] [(.long (0 : Int64)), (.long r)]))
      refine Ends.pre (fun tt kt => XS.lcmp X12.here hx rfl (hb hby at_213) rfl kt) ?_
      show Ends p e below _ (T12.setTop (mkF m 214 #[.val (.int x0), .val (.int y0), .val (.int k0), .val (.int r0), .val (.long v0), .second, .val (.int m0), .val (.int i), .val (.int s0), .val (.int mm), .val (.int n), .val (.long k), .second, .val (.long r), .second, .val (.long a), .second, .val (.double rs), .second, .val (.double (FP.l2d k)), .second, .val (.double (FP.l2d (k + (1 : Int64)))), .second, .val (.double (FP.dmul (4611686018427387904 : UInt64) rs)), .second, .val (.double (FP.l2d (((2 : Int64) * k) + (1 : Int64)))), .second, .unset, .unset, .unset] [(.int (lcmpW r (0 : Int64)))]))
      by_cases hr0 : r = (0 : Int64)
      ·
        refine Ends.pre (fun tt kt => XS.ifNo X12.here hx rfl (hb hby at_214) rfl ((if0 _ _).trans (teq ((lw_eq _ _).mpr hr0)).2) kt) ?_
        show Ends p e below _ (T12.setTop (mkF m 217 #[.val (.int x0), .val (.int y0), .val (.int k0), .val (.int r0), .val (.long v0), .second, .val (.int m0), .val (.int i), .val (.int s0), .val (.int mm), .val (.int n), .val (.long k), .second, .val (.long r), .second, .val (.long a), .second, .val (.double rs), .second, .val (.double (FP.l2d k)), .second, .val (.double (FP.l2d (k + (1 : Int64)))), .second, .val (.double (FP.dmul (4611686018427387904 : UInt64) rs)), .second, .val (.double (FP.l2d (((2 : Int64) * k) + (1 : Int64)))), .second, .unset, .unset, .unset] []))
        have hq : rN = 0 := own_r0 hrN hr0
        refine Ends.pre (fun tt kt => XS.dload X12.here hx rfl (hb hby at_217) rfl kt) ?_
        show Ends p e below _ (T12.setTop (mkF m 219 #[.val (.int x0), .val (.int y0), .val (.int k0), .val (.int r0), .val (.long v0), .second, .val (.int m0), .val (.int i), .val (.int s0), .val (.int mm), .val (.int n), .val (.long k), .second, .val (.long r), .second, .val (.long a), .second, .val (.double rs), .second, .val (.double (FP.l2d k)), .second, .val (.double (FP.l2d (k + (1 : Int64)))), .second, .val (.double (FP.dmul (4611686018427387904 : UInt64) rs)), .second, .val (.double (FP.l2d (((2 : Int64) * k) + (1 : Int64)))), .second, .unset, .unset, .unset] [(.double rs)]))
        refine Ends.pre (fun tt kt => XS.dload X12.here hx rfl (hb hby at_219) rfl kt) ?_
        show Ends p e below _ (T12.setTop (mkF m 221 #[.val (.int x0), .val (.int y0), .val (.int k0), .val (.int r0), .val (.long v0), .second, .val (.int m0), .val (.int i), .val (.int s0), .val (.int mm), .val (.int n), .val (.long k), .second, .val (.long r), .second, .val (.long a), .second, .val (.double rs), .second, .val (.double (FP.l2d k)), .second, .val (.double (FP.l2d (k + (1 : Int64)))), .second, .val (.double (FP.dmul (4611686018427387904 : UInt64) rs)), .second, .val (.double (FP.l2d (((2 : Int64) * k) + (1 : Int64)))), .second, .unset, .unset, .unset] [(.double (FP.l2d k)), (.double rs)]))
        refine Ends.pre (fun tt kt => XS.dcmpS X12.here hx rfl (v := (0 : Int32)) (hb hby at_221) rfl (own_cv_eq .l (NN.eq hz nk (zr0 hq))) kt) ?_
        show Ends p e below _ (T12.setTop (mkF m 222 #[.val (.int x0), .val (.int y0), .val (.int k0), .val (.int r0), .val (.long v0), .second, .val (.int m0), .val (.int i), .val (.int s0), .val (.int mm), .val (.int n), .val (.long k), .second, .val (.long r), .second, .val (.long a), .second, .val (.double rs), .second, .val (.double (FP.l2d k)), .second, .val (.double (FP.l2d (k + (1 : Int64)))), .second, .val (.double (FP.dmul (4611686018427387904 : UInt64) rs)), .second, .val (.double (FP.l2d (((2 : Int64) * k) + (1 : Int64)))), .second, .unset, .unset, .unset] [(.int (0 : Int32))]))
        refine Ends.pre (fun tt kt => XS.ifNo X12.here hx rfl (hb hby at_222) rfl ((if0 _ _).trans (teq rfl).2) kt) ?_
        show Ends p e below _ (T12.setTop (mkF m 225 #[.val (.int x0), .val (.int y0), .val (.int k0), .val (.int r0), .val (.long v0), .second, .val (.int m0), .val (.int i), .val (.int s0), .val (.int mm), .val (.int n), .val (.long k), .second, .val (.long r), .second, .val (.long a), .second, .val (.double rs), .second, .val (.double (FP.l2d k)), .second, .val (.double (FP.l2d (k + (1 : Int64)))), .second, .val (.double (FP.dmul (4611686018427387904 : UInt64) rs)), .second, .val (.double (FP.l2d (((2 : Int64) * k) + (1 : Int64)))), .second, .unset, .unset, .unset] []))
        refine Ends.pre (fun tt kt => XS.iconst X12.here hx rfl (hb hby at_225) kt) ?_
        show Ends p e below _ (T12.setTop (mkF m 226 #[.val (.int x0), .val (.int y0), .val (.int k0), .val (.int r0), .val (.long v0), .second, .val (.int m0), .val (.int i), .val (.int s0), .val (.int mm), .val (.int n), .val (.long k), .second, .val (.long r), .second, .val (.long a), .second, .val (.double rs), .second, .val (.double (FP.l2d k)), .second, .val (.double (FP.l2d (k + (1 : Int64)))), .second, .val (.double (FP.dmul (4611686018427387904 : UInt64) rs)), .second, .val (.double (FP.l2d (((2 : Int64) * k) + (1 : Int64)))), .second, .unset, .unset, .unset] [(.int (1 : Int32))]))
        refine Ends.pre (fun tt kt => XS.goto X12.here hx rfl (pc0 := 226) (pc' := 230) rfl (hb hby at_226) (by decide) (by decide) kt) ?_
        show Ends p e below _ (T12.setTop (mkF m 230 #[.val (.int x0), .val (.int y0), .val (.int k0), .val (.int r0), .val (.long v0), .second, .val (.int m0), .val (.int i), .val (.int s0), .val (.int mm), .val (.int n), .val (.long k), .second, .val (.long r), .second, .val (.long a), .second, .val (.double rs), .second, .val (.double (FP.l2d k)), .second, .val (.double (FP.l2d (k + (1 : Int64)))), .second, .val (.double (FP.dmul (4611686018427387904 : UInt64) rs)), .second, .val (.double (FP.l2d (((2 : Int64) * k) + (1 : Int64)))), .second, .unset, .unset, .unset] [(.int (1 : Int32))]))
        obtain ⟨fs, hr, hrun, hended, hW, hsame⟩ := X12.leave (v := some (.int (1 : Int32))) (fun h => by rw [Bd.returns] at h; cases h)
        refine ⟨_, _, retN X12 hx (t := .boolean) Bd.returns (by simp) (hb hby at_230) hr, hrun, hended, _, _, rfl, ?_, ⟨_, rfl⟩, hW, hsame.mono (by decide) (by decide)⟩
        show Q0 Z _ _ _ _ _ _ h0 n0 _ T12.heap _
        rw [e12]
        exact ⟨rfl, N12⟩
      ·
        refine Ends.pre (fun tt kt => XS.ifYes X12.here hx rfl (pc0 := 214) (pc' := 231) rfl (hb hby at_214) rfl ((if0 _ _).trans (feq (mt (lw_eq _ _).mp hr0)).2) (by decide) (by decide) kt) ?_
        show Ends p e below _ (T12.setTop (mkF m 231 #[.val (.int x0), .val (.int y0), .val (.int k0), .val (.int r0), .val (.long v0), .second, .val (.int m0), .val (.int i), .val (.int s0), .val (.int mm), .val (.int n), .val (.long k), .second, .val (.long r), .second, .val (.long a), .second, .val (.double rs), .second, .val (.double (FP.l2d k)), .second, .val (.double (FP.l2d (k + (1 : Int64)))), .second, .val (.double (FP.dmul (4611686018427387904 : UInt64) rs)), .second, .val (.double (FP.l2d (((2 : Int64) * k) + (1 : Int64)))), .second, .unset, .unset, .unset] []))
        have hq : 0 < rN := own_r1 hrN hr0
        refine Ends.pre (fun tt kt => XS.dload X12.here hx rfl (hb hby at_231) rfl kt) ?_
        show Ends p e below _ (T12.setTop (mkF m 233 #[.val (.int x0), .val (.int y0), .val (.int k0), .val (.int r0), .val (.long v0), .second, .val (.int m0), .val (.int i), .val (.int s0), .val (.int mm), .val (.int n), .val (.long k), .second, .val (.long r), .second, .val (.long a), .second, .val (.double rs), .second, .val (.double (FP.l2d k)), .second, .val (.double (FP.l2d (k + (1 : Int64)))), .second, .val (.double (FP.dmul (4611686018427387904 : UInt64) rs)), .second, .val (.double (FP.l2d (((2 : Int64) * k) + (1 : Int64)))), .second, .unset, .unset, .unset] [(.double (FP.l2d k))]))
        refine Ends.pre (fun tt kt => XS.dload X12.here hx rfl (hb hby at_233) rfl kt) ?_
        show Ends p e below _ (T12.setTop (mkF m 235 #[.val (.int x0), .val (.int y0), .val (.int k0), .val (.int r0), .val (.long v0), .second, .val (.int m0), .val (.int i), .val (.int s0), .val (.int mm), .val (.int n), .val (.long k), .second, .val (.long r), .second, .val (.long a), .second, .val (.double rs), .second, .val (.double (FP.l2d k)), .second, .val (.double (FP.l2d (k + (1 : Int64)))), .second, .val (.double (FP.dmul (4611686018427387904 : UInt64) rs)), .second, .val (.double (FP.l2d (((2 : Int64) * k) + (1 : Int64)))), .second, .unset, .unset, .unset] [(.double rs), (.double (FP.l2d k))]))
        refine Ends.pre (fun tt kt => XS.dcmpS X12.here hx rfl (v := (-1 : Int32)) (hb hby at_235) rfl (own_cv_lt .g (NN.lt nk hz (zr1 hq).1)) kt) ?_
        show Ends p e below _ (T12.setTop (mkF m 236 #[.val (.int x0), .val (.int y0), .val (.int k0), .val (.int r0), .val (.long v0), .second, .val (.int m0), .val (.int i), .val (.int s0), .val (.int mm), .val (.int n), .val (.long k), .second, .val (.long r), .second, .val (.long a), .second, .val (.double rs), .second, .val (.double (FP.l2d k)), .second, .val (.double (FP.l2d (k + (1 : Int64)))), .second, .val (.double (FP.dmul (4611686018427387904 : UInt64) rs)), .second, .val (.double (FP.l2d (((2 : Int64) * k) + (1 : Int64)))), .second, .unset, .unset, .unset] [(.int (-1 : Int32))]))
        refine Ends.pre (fun tt kt => XS.ifNo X12.here hx rfl (hb hby at_236) rfl ((if0 _ _).trans (tlt (by decide)).2.1) kt) ?_
        show Ends p e below _ (T12.setTop (mkF m 239 #[.val (.int x0), .val (.int y0), .val (.int k0), .val (.int r0), .val (.long v0), .second, .val (.int m0), .val (.int i), .val (.int s0), .val (.int mm), .val (.int n), .val (.long k), .second, .val (.long r), .second, .val (.long a), .second, .val (.double rs), .second, .val (.double (FP.l2d k)), .second, .val (.double (FP.l2d (k + (1 : Int64)))), .second, .val (.double (FP.dmul (4611686018427387904 : UInt64) rs)), .second, .val (.double (FP.l2d (((2 : Int64) * k) + (1 : Int64)))), .second, .unset, .unset, .unset] []))
        refine Ends.pre (fun tt kt => XS.dload X12.here hx rfl (hb hby at_239) rfl kt) ?_
        show Ends p e below _ (T12.setTop (mkF m 241 #[.val (.int x0), .val (.int y0), .val (.int k0), .val (.int r0), .val (.long v0), .second, .val (.int m0), .val (.int i), .val (.int s0), .val (.int mm), .val (.int n), .val (.long k), .second, .val (.long r), .second, .val (.long a), .second, .val (.double rs), .second, .val (.double (FP.l2d k)), .second, .val (.double (FP.l2d (k + (1 : Int64)))), .second, .val (.double (FP.dmul (4611686018427387904 : UInt64) rs)), .second, .val (.double (FP.l2d (((2 : Int64) * k) + (1 : Int64)))), .second, .unset, .unset, .unset] [(.double rs)]))
        refine Ends.pre (fun tt kt => XS.dload X12.here hx rfl (hb hby at_241) rfl kt) ?_
        show Ends p e below _ (T12.setTop (mkF m 243 #[.val (.int x0), .val (.int y0), .val (.int k0), .val (.int r0), .val (.long v0), .second, .val (.int m0), .val (.int i), .val (.int s0), .val (.int mm), .val (.int n), .val (.long k), .second, .val (.long r), .second, .val (.long a), .second, .val (.double rs), .second, .val (.double (FP.l2d k)), .second, .val (.double (FP.l2d (k + (1 : Int64)))), .second, .val (.double (FP.dmul (4611686018427387904 : UInt64) rs)), .second, .val (.double (FP.l2d (((2 : Int64) * k) + (1 : Int64)))), .second, .unset, .unset, .unset] [(.double (FP.l2d (k + (1 : Int64)))), (.double rs)]))
        refine Ends.pre (fun tt kt => XS.dcmpS X12.here hx rfl (v := (-1 : Int32)) (hb hby at_243) rfl (own_cv_lt .g (NN.lt hz nk1 (zr1 hq).2)) kt) ?_
        show Ends p e below _ (T12.setTop (mkF m 244 #[.val (.int x0), .val (.int y0), .val (.int k0), .val (.int r0), .val (.long v0), .second, .val (.int m0), .val (.int i), .val (.int s0), .val (.int mm), .val (.int n), .val (.long k), .second, .val (.long r), .second, .val (.long a), .second, .val (.double rs), .second, .val (.double (FP.l2d k)), .second, .val (.double (FP.l2d (k + (1 : Int64)))), .second, .val (.double (FP.dmul (4611686018427387904 : UInt64) rs)), .second, .val (.double (FP.l2d (((2 : Int64) * k) + (1 : Int64)))), .second, .unset, .unset, .unset] [(.int (-1 : Int32))]))
        refine Ends.pre (fun tt kt => XS.ifNo X12.here hx rfl (hb hby at_244) rfl ((if0 _ _).trans (tlt (by decide)).2.1) kt) ?_
        show Ends p e below _ (T12.setTop (mkF m 247 #[.val (.int x0), .val (.int y0), .val (.int k0), .val (.int r0), .val (.long v0), .second, .val (.int m0), .val (.int i), .val (.int s0), .val (.int mm), .val (.int n), .val (.long k), .second, .val (.long r), .second, .val (.long a), .second, .val (.double rs), .second, .val (.double (FP.l2d k)), .second, .val (.double (FP.l2d (k + (1 : Int64)))), .second, .val (.double (FP.dmul (4611686018427387904 : UInt64) rs)), .second, .val (.double (FP.l2d (((2 : Int64) * k) + (1 : Int64)))), .second, .unset, .unset, .unset] []))
        refine Ends.pre (fun tt kt => XS.iconst X12.here hx rfl (hb hby at_247) kt) ?_
        show Ends p e below _ (T12.setTop (mkF m 248 #[.val (.int x0), .val (.int y0), .val (.int k0), .val (.int r0), .val (.long v0), .second, .val (.int m0), .val (.int i), .val (.int s0), .val (.int mm), .val (.int n), .val (.long k), .second, .val (.long r), .second, .val (.long a), .second, .val (.double rs), .second, .val (.double (FP.l2d k)), .second, .val (.double (FP.l2d (k + (1 : Int64)))), .second, .val (.double (FP.dmul (4611686018427387904 : UInt64) rs)), .second, .val (.double (FP.l2d (((2 : Int64) * k) + (1 : Int64)))), .second, .unset, .unset, .unset] [(.int (1 : Int32))]))
        refine Ends.pre (fun tt kt => XS.goto X12.here hx rfl (pc0 := 248) (pc' := 252) rfl (hb hby at_248) (by decide) (by decide) kt) ?_
        show Ends p e below _ (T12.setTop (mkF m 252 #[.val (.int x0), .val (.int y0), .val (.int k0), .val (.int r0), .val (.long v0), .second, .val (.int m0), .val (.int i), .val (.int s0), .val (.int mm), .val (.int n), .val (.long k), .second, .val (.long r), .second, .val (.long a), .second, .val (.double rs), .second, .val (.double (FP.l2d k)), .second, .val (.double (FP.l2d (k + (1 : Int64)))), .second, .val (.double (FP.dmul (4611686018427387904 : UInt64) rs)), .second, .val (.double (FP.l2d (((2 : Int64) * k) + (1 : Int64)))), .second, .unset, .unset, .unset] [(.int (1 : Int32))]))
        refine Ends.pre (fun tt kt => XS.istore X12.here hx rfl (hb hby at_252) rfl (l' := #[.val (.int x0), .val (.int y0), .val (.int k0), .val (.int r0), .val (.long v0), .second, .val (.int m0), .val (.int i), .val (.int s0), .val (.int mm), .val (.int n), .val (.long k), .second, .val (.long r), .second, .val (.long a), .second, .val (.double rs), .second, .val (.double (FP.l2d k)), .second, .val (.double (FP.l2d (k + (1 : Int64)))), .second, .val (.double (FP.dmul (4611686018427387904 : UInt64) rs)), .second, .val (.double (FP.l2d (((2 : Int64) * k) + (1 : Int64)))), .second, .val (.int (1 : Int32)), .unset, .unset]) rfl kt) ?_
        show Ends p e below _ (T12.setTop (mkF m 254 #[.val (.int x0), .val (.int y0), .val (.int k0), .val (.int r0), .val (.long v0), .second, .val (.int m0), .val (.int i), .val (.int s0), .val (.int mm), .val (.int n), .val (.long k), .second, .val (.long r), .second, .val (.long a), .second, .val (.double rs), .second, .val (.double (FP.l2d k)), .second, .val (.double (FP.l2d (k + (1 : Int64)))), .second, .val (.double (FP.dmul (4611686018427387904 : UInt64) rs)), .second, .val (.double (FP.l2d (((2 : Int64) * k) + (1 : Int64)))), .second, .val (.int (1 : Int32)), .unset, .unset] []))
        refine Ends.pre (fun tt kt => X12.ldc2Long hx hown (mvT hZ (hw _ (List.mem_of_getElem? (i := 37) rfl))) (g := (mkF m 254 #[.val (.int x0), .val (.int y0), .val (.int k0), .val (.int r0), .val (.long v0), .second, .val (.int m0), .val (.int i), .val (.int s0), .val (.int mm), .val (.int n), .val (.long k), .second, .val (.long r), .second, .val (.long a), .second, .val (.double rs), .second, .val (.double (FP.l2d k)), .second, .val (.double (FP.l2d (k + (1 : Int64)))), .second, .val (.double (FP.dmul (4611686018427387904 : UInt64) rs)), .second, .val (.double (FP.l2d (((2 : Int64) * k) + (1 : Int64)))), .second, .val (.int (1 : Int32)), .unset, .unset] [])) rfl (hb hby at_254) _ kt) ?_
        show Ends p e below _ (T12.setTop (mkF m 257 #[.val (.int x0), .val (.int y0), .val (.int k0), .val (.int r0), .val (.long v0), .second, .val (.int m0), .val (.int i), .val (.int s0), .val (.int mm), .val (.int n), .val (.long k), .second, .val (.long r), .second, .val (.long a), .second, .val (.double rs), .second, .val (.double (FP.l2d k)), .second, .val (.double (FP.l2d (k + (1 : Int64)))), .second, .val (.double (FP.dmul (4611686018427387904 : UInt64) rs)), .second, .val (.double (FP.l2d (((2 : Int64) * k) + (1 : Int64)))), .second, .val (.int (1 : Int32)), .unset, .unset] [(.long (2 : Int64))]))
        refine Ends.pre (fun tt kt => XS.lload X12.here hx rfl (hb hby at_257) rfl kt) ?_
        show Ends p e below _ (T12.setTop (mkF m 259 #[.val (.int x0), .val (.int y0), .val (.int k0), .val (.int r0), .val (.long v0), .second, .val (.int m0), .val (.int i), .val (.int s0), .val (.int mm), .val (.int n), .val (.long k), .second, .val (.long r), .second, .val (.long a), .second, .val (.double rs), .second, .val (.double (FP.l2d k)), .second, .val (.double (FP.l2d (k + (1 : Int64)))), .second, .val (.double (FP.dmul (4611686018427387904 : UInt64) rs)), .second, .val (.double (FP.l2d (((2 : Int64) * k) + (1 : Int64)))), .second, .val (.int (1 : Int32)), .unset, .unset] [(.long r), (.long (2 : Int64))]))
        refine Ends.pre (fun tt kt => XS.lmul X12.here hx rfl (hb hby at_259) rfl kt) ?_
        show Ends p e below _ (T12.setTop (mkF m 260 #[.val (.int x0), .val (.int y0), .val (.int k0), .val (.int r0), .val (.long v0), .second, .val (.int m0), .val (.int i), .val (.int s0), .val (.int mm), .val (.int n), .val (.long k), .second, .val (.long r), .second, .val (.long a), .second, .val (.double rs), .second, .val (.double (FP.l2d k)), .second, .val (.double (FP.l2d (k + (1 : Int64)))), .second, .val (.double (FP.dmul (4611686018427387904 : UInt64) rs)), .second, .val (.double (FP.l2d (((2 : Int64) * k) + (1 : Int64)))), .second, .val (.int (1 : Int32)), .unset, .unset] [(.long ((2 : Int64) * r))]))
        refine Ends.pre (fun tt kt => XS.iload X12.here hx rfl (hb hby at_260) rfl kt) ?_
        show Ends p e below _ (T12.setTop (mkF m 262 #[.val (.int x0), .val (.int y0), .val (.int k0), .val (.int r0), .val (.long v0), .second, .val (.int m0), .val (.int i), .val (.int s0), .val (.int mm), .val (.int n), .val (.long k), .second, .val (.long r), .second, .val (.long a), .second, .val (.double rs), .second, .val (.double (FP.l2d k)), .second, .val (.double (FP.l2d (k + (1 : Int64)))), .second, .val (.double (FP.dmul (4611686018427387904 : UInt64) rs)), .second, .val (.double (FP.l2d (((2 : Int64) * k) + (1 : Int64)))), .second, .val (.int (1 : Int32)), .unset, .unset] [(.int n), (.long ((2 : Int64) * r))]))
        refine Ends.pre (fun tt kt => XS.i2l X12.here hx rfl (hb hby at_262) rfl kt) ?_
        show Ends p e below _ (T12.setTop (mkF m 263 #[.val (.int x0), .val (.int y0), .val (.int k0), .val (.int r0), .val (.long v0), .second, .val (.int m0), .val (.int i), .val (.int s0), .val (.int mm), .val (.int n), .val (.long k), .second, .val (.long r), .second, .val (.long a), .second, .val (.double rs), .second, .val (.double (FP.l2d k)), .second, .val (.double (FP.l2d (k + (1 : Int64)))), .second, .val (.double (FP.dmul (4611686018427387904 : UInt64) rs)), .second, .val (.double (FP.l2d (((2 : Int64) * k) + (1 : Int64)))), .second, .val (.int (1 : Int32)), .unset, .unset] [(.long (n.toInt64)), (.long ((2 : Int64) * r))]))
        refine Ends.pre (fun tt kt => XS.lsub X12.here hx rfl (hb hby at_263) rfl kt) ?_
        show Ends p e below _ (T12.setTop (mkF m 264 #[.val (.int x0), .val (.int y0), .val (.int k0), .val (.int r0), .val (.long v0), .second, .val (.int m0), .val (.int i), .val (.int s0), .val (.int mm), .val (.int n), .val (.long k), .second, .val (.long r), .second, .val (.long a), .second, .val (.double rs), .second, .val (.double (FP.l2d k)), .second, .val (.double (FP.l2d (k + (1 : Int64)))), .second, .val (.double (FP.dmul (4611686018427387904 : UInt64) rs)), .second, .val (.double (FP.l2d (((2 : Int64) * k) + (1 : Int64)))), .second, .val (.int (1 : Int32)), .unset, .unset] [(.long (((2 : Int64) * r) - (n.toInt64)))]))
        obtain ⟨d, hd⟩ : ∃ z, z = (((2 : Int64) * r) - (n.toInt64)) := ⟨_, rfl⟩
        rw [← hd]
        show Ends p e below _ (T12.setTop (mkF m 264 #[.val (.int x0), .val (.int y0), .val (.int k0), .val (.int r0), .val (.long v0), .second, .val (.int m0), .val (.int i), .val (.int s0), .val (.int mm), .val (.int n), .val (.long k), .second, .val (.long r), .second, .val (.long a), .second, .val (.double rs), .second, .val (.double (FP.l2d k)), .second, .val (.double (FP.l2d (k + (1 : Int64)))), .second, .val (.double (FP.dmul (4611686018427387904 : UInt64) rs)), .second, .val (.double (FP.l2d (((2 : Int64) * k) + (1 : Int64)))), .second, .val (.int (1 : Int32)), .unset, .unset] [(.long d)]))
        have hdN := own_d hrN hnN hnlt hrlt hd
        refine Ends.pre (fun tt kt => XS.lstore X12.here hx rfl (hb hby at_264) rfl (l' := #[.val (.int x0), .val (.int y0), .val (.int k0), .val (.int r0), .val (.long v0), .second, .val (.int m0), .val (.int i), .val (.int s0), .val (.int mm), .val (.int n), .val (.long k), .second, .val (.long r), .second, .val (.long a), .second, .val (.double rs), .second, .val (.double (FP.l2d k)), .second, .val (.double (FP.l2d (k + (1 : Int64)))), .second, .val (.double (FP.dmul (4611686018427387904 : UInt64) rs)), .second, .val (.double (FP.l2d (((2 : Int64) * k) + (1 : Int64)))), .second, .val (.int (1 : Int32)), .val (.long d), .second]) rfl kt) ?_
        show Ends p e below _ (T12.setTop (mkF m 266 #[.val (.int x0), .val (.int y0), .val (.int k0), .val (.int r0), .val (.long v0), .second, .val (.int m0), .val (.int i), .val (.int s0), .val (.int mm), .val (.int n), .val (.long k), .second, .val (.long r), .second, .val (.long a), .second, .val (.double rs), .second, .val (.double (FP.l2d k)), .second, .val (.double (FP.l2d (k + (1 : Int64)))), .second, .val (.double (FP.dmul (4611686018427387904 : UInt64) rs)), .second, .val (.double (FP.l2d (((2 : Int64) * k) + (1 : Int64)))), .second, .val (.int (1 : Int32)), .val (.long d), .second] []))
        refine Ends.pre (fun tt kt => XS.lload X12.here hx rfl (hb hby at_266) rfl kt) ?_
        show Ends p e below _ (T12.setTop (mkF m 268 #[.val (.int x0), .val (.int y0), .val (.int k0), .val (.int r0), .val (.long v0), .second, .val (.int m0), .val (.int i), .val (.int s0), .val (.int mm), .val (.int n), .val (.long k), .second, .val (.long r), .second, .val (.long a), .second, .val (.double rs), .second, .val (.double (FP.l2d k)), .second, .val (.double (FP.l2d (k + (1 : Int64)))), .second, .val (.double (FP.dmul (4611686018427387904 : UInt64) rs)), .second, .val (.double (FP.l2d (((2 : Int64) * k) + (1 : Int64)))), .second, .val (.int (1 : Int32)), .val (.long d), .second] [(.long d)]))
        refine Ends.pre (fun tt kt => XS.lconst X12.here hx rfl (hb hby at_268) kt) ?_
        show Ends p e below _ (T12.setTop (mkF m 269 #[.val (.int x0), .val (.int y0), .val (.int k0), .val (.int r0), .val (.long v0), .second, .val (.int m0), .val (.int i), .val (.int s0), .val (.int mm), .val (.int n), .val (.long k), .second, .val (.long r), .second, .val (.long a), .second, .val (.double rs), .second, .val (.double (FP.l2d k)), .second, .val (.double (FP.l2d (k + (1 : Int64)))), .second, .val (.double (FP.dmul (4611686018427387904 : UInt64) rs)), .second, .val (.double (FP.l2d (((2 : Int64) * k) + (1 : Int64)))), .second, .val (.int (1 : Int32)), .val (.long d), .second] [(.long (0 : Int64)), (.long d)]))
        refine Ends.pre (fun tt kt => XS.lcmp X12.here hx rfl (hb hby at_269) rfl kt) ?_
        show Ends p e below _ (T12.setTop (mkF m 270 #[.val (.int x0), .val (.int y0), .val (.int k0), .val (.int r0), .val (.long v0), .second, .val (.int m0), .val (.int i), .val (.int s0), .val (.int mm), .val (.int n), .val (.long k), .second, .val (.long r), .second, .val (.long a), .second, .val (.double rs), .second, .val (.double (FP.l2d k)), .second, .val (.double (FP.l2d (k + (1 : Int64)))), .second, .val (.double (FP.dmul (4611686018427387904 : UInt64) rs)), .second, .val (.double (FP.l2d (((2 : Int64) * k) + (1 : Int64)))), .second, .val (.int (1 : Int32)), .val (.long d), .second] [(.int (lcmpW d (0 : Int64)))]))
        by_cases hd0 : d < (0 : Int64)
        ·
          refine Ends.pre (fun tt kt => XS.ifNo X12.here hx rfl (hb hby at_270) rfl ((if0 _ _).trans (tlt ((lw_lt _ _).mpr hd0)).2.1) kt) ?_
          show Ends p e below _ (T12.setTop (mkF m 273 #[.val (.int x0), .val (.int y0), .val (.int k0), .val (.int r0), .val (.long v0), .second, .val (.int m0), .val (.int i), .val (.int s0), .val (.int mm), .val (.int n), .val (.long k), .second, .val (.long r), .second, .val (.long a), .second, .val (.double rs), .second, .val (.double (FP.l2d k)), .second, .val (.double (FP.l2d (k + (1 : Int64)))), .second, .val (.double (FP.dmul (4611686018427387904 : UInt64) rs)), .second, .val (.double (FP.l2d (((2 : Int64) * k) + (1 : Int64)))), .second, .val (.int (1 : Int32)), .val (.long d), .second] []))
          refine Ends.pre (fun tt kt => XS.iload X12.here hx rfl (hb hby at_273) rfl kt) ?_
          show Ends p e below _ (T12.setTop (mkF m 275 #[.val (.int x0), .val (.int y0), .val (.int k0), .val (.int r0), .val (.long v0), .second, .val (.int m0), .val (.int i), .val (.int s0), .val (.int mm), .val (.int n), .val (.long k), .second, .val (.long r), .second, .val (.long a), .second, .val (.double rs), .second, .val (.double (FP.l2d k)), .second, .val (.double (FP.l2d (k + (1 : Int64)))), .second, .val (.double (FP.dmul (4611686018427387904 : UInt64) rs)), .second, .val (.double (FP.l2d (((2 : Int64) * k) + (1 : Int64)))), .second, .val (.int (1 : Int32)), .val (.long d), .second] [(.int (1 : Int32))]))
          refine Ends.pre (fun tt kt => XS.ifNo X12.here hx rfl (hb hby at_275) rfl ((if0 _ _).trans (feq (by decide)).1) kt) ?_
          show Ends p e below _ (T12.setTop (mkF m 278 #[.val (.int x0), .val (.int y0), .val (.int k0), .val (.int r0), .val (.long v0), .second, .val (.int m0), .val (.int i), .val (.int s0), .val (.int mm), .val (.int n), .val (.long k), .second, .val (.long r), .second, .val (.long a), .second, .val (.double rs), .second, .val (.double (FP.l2d k)), .second, .val (.double (FP.l2d (k + (1 : Int64)))), .second, .val (.double (FP.dmul (4611686018427387904 : UInt64) rs)), .second, .val (.double (FP.l2d (((2 : Int64) * k) + (1 : Int64)))), .second, .val (.int (1 : Int32)), .val (.long d), .second] []))
          refine Ends.pre (fun tt kt => XS.dload X12.here hx rfl (hb hby at_278) rfl kt) ?_
          show Ends p e below _ (T12.setTop (mkF m 280 #[.val (.int x0), .val (.int y0), .val (.int k0), .val (.int r0), .val (.long v0), .second, .val (.int m0), .val (.int i), .val (.int s0), .val (.int mm), .val (.int n), .val (.long k), .second, .val (.long r), .second, .val (.long a), .second, .val (.double rs), .second, .val (.double (FP.l2d k)), .second, .val (.double (FP.l2d (k + (1 : Int64)))), .second, .val (.double (FP.dmul (4611686018427387904 : UInt64) rs)), .second, .val (.double (FP.l2d (((2 : Int64) * k) + (1 : Int64)))), .second, .val (.int (1 : Int32)), .val (.long d), .second] [(.double (FP.dmul (4611686018427387904 : UInt64) rs))]))
          refine Ends.pre (fun tt kt => XS.dload X12.here hx rfl (hb hby at_280) rfl kt) ?_
          show Ends p e below _ (T12.setTop (mkF m 282 #[.val (.int x0), .val (.int y0), .val (.int k0), .val (.int r0), .val (.long v0), .second, .val (.int m0), .val (.int i), .val (.int s0), .val (.int mm), .val (.int n), .val (.long k), .second, .val (.long r), .second, .val (.long a), .second, .val (.double rs), .second, .val (.double (FP.l2d k)), .second, .val (.double (FP.l2d (k + (1 : Int64)))), .second, .val (.double (FP.dmul (4611686018427387904 : UInt64) rs)), .second, .val (.double (FP.l2d (((2 : Int64) * k) + (1 : Int64)))), .second, .val (.int (1 : Int32)), .val (.long d), .second] [(.double (FP.l2d (((2 : Int64) * k) + (1 : Int64)))), (.double (FP.dmul (4611686018427387904 : UInt64) rs))]))
          refine Ends.pre (fun tt kt => XS.dcmpS X12.here hx rfl (v := (-1 : Int32)) (hb hby at_282) rfl (own_cv_lt .g (NN.lt nt nm (zl (own_dl hdN hd0)))) kt) ?_
          show Ends p e below _ (T12.setTop (mkF m 283 #[.val (.int x0), .val (.int y0), .val (.int k0), .val (.int r0), .val (.long v0), .second, .val (.int m0), .val (.int i), .val (.int s0), .val (.int mm), .val (.int n), .val (.long k), .second, .val (.long r), .second, .val (.long a), .second, .val (.double rs), .second, .val (.double (FP.l2d k)), .second, .val (.double (FP.l2d (k + (1 : Int64)))), .second, .val (.double (FP.dmul (4611686018427387904 : UInt64) rs)), .second, .val (.double (FP.l2d (((2 : Int64) * k) + (1 : Int64)))), .second, .val (.int (1 : Int32)), .val (.long d), .second] [(.int (-1 : Int32))]))
          refine Ends.pre (fun tt kt => XS.ifNo X12.here hx rfl (hb hby at_283) rfl ((if0 _ _).trans (tlt (by decide)).2.1) kt) ?_
          show Ends p e below _ (T12.setTop (mkF m 286 #[.val (.int x0), .val (.int y0), .val (.int k0), .val (.int r0), .val (.long v0), .second, .val (.int m0), .val (.int i), .val (.int s0), .val (.int mm), .val (.int n), .val (.long k), .second, .val (.long r), .second, .val (.long a), .second, .val (.double rs), .second, .val (.double (FP.l2d k)), .second, .val (.double (FP.l2d (k + (1 : Int64)))), .second, .val (.double (FP.dmul (4611686018427387904 : UInt64) rs)), .second, .val (.double (FP.l2d (((2 : Int64) * k) + (1 : Int64)))), .second, .val (.int (1 : Int32)), .val (.long d), .second] []))
          refine Ends.pre (fun tt kt => XS.iconst X12.here hx rfl (hb hby at_286) kt) ?_
          show Ends p e below _ (T12.setTop (mkF m 287 #[.val (.int x0), .val (.int y0), .val (.int k0), .val (.int r0), .val (.long v0), .second, .val (.int m0), .val (.int i), .val (.int s0), .val (.int mm), .val (.int n), .val (.long k), .second, .val (.long r), .second, .val (.long a), .second, .val (.double rs), .second, .val (.double (FP.l2d k)), .second, .val (.double (FP.l2d (k + (1 : Int64)))), .second, .val (.double (FP.dmul (4611686018427387904 : UInt64) rs)), .second, .val (.double (FP.l2d (((2 : Int64) * k) + (1 : Int64)))), .second, .val (.int (1 : Int32)), .val (.long d), .second] [(.int (1 : Int32))]))
          refine Ends.pre (fun tt kt => XS.goto X12.here hx rfl (pc0 := 287) (pc' := 291) rfl (hb hby at_287) (by decide) (by decide) kt) ?_
          show Ends p e below _ (T12.setTop (mkF m 291 #[.val (.int x0), .val (.int y0), .val (.int k0), .val (.int r0), .val (.long v0), .second, .val (.int m0), .val (.int i), .val (.int s0), .val (.int mm), .val (.int n), .val (.long k), .second, .val (.long r), .second, .val (.long a), .second, .val (.double rs), .second, .val (.double (FP.l2d k)), .second, .val (.double (FP.l2d (k + (1 : Int64)))), .second, .val (.double (FP.dmul (4611686018427387904 : UInt64) rs)), .second, .val (.double (FP.l2d (((2 : Int64) * k) + (1 : Int64)))), .second, .val (.int (1 : Int32)), .val (.long d), .second] [(.int (1 : Int32))]))
          obtain ⟨fs, hr, hrun, hended, hW, hsame⟩ := X12.leave (v := some (.int (1 : Int32))) (fun h => by rw [Bd.returns] at h; cases h)
          refine ⟨_, _, retN X12 hx (t := .boolean) Bd.returns (by simp) (hb hby at_291) hr, hrun, hended, _, _, rfl, ?_, ⟨_, rfl⟩, hW, hsame.mono (by decide) (by decide)⟩
          show Q0 Z _ _ _ _ _ _ h0 n0 _ T12.heap _
          rw [e12]
          exact ⟨rfl, N12⟩
        ·
          refine Ends.pre (fun tt kt => XS.ifYes X12.here hx rfl (pc0 := 270) (pc' := 292) rfl (hb hby at_270) rfl ((if0 _ _).trans (flt (mt (lw_lt _ _).mp hd0)).2.1) (by decide) (by decide) kt) ?_
          show Ends p e below _ (T12.setTop (mkF m 292 #[.val (.int x0), .val (.int y0), .val (.int k0), .val (.int r0), .val (.long v0), .second, .val (.int m0), .val (.int i), .val (.int s0), .val (.int mm), .val (.int n), .val (.long k), .second, .val (.long r), .second, .val (.long a), .second, .val (.double rs), .second, .val (.double (FP.l2d k)), .second, .val (.double (FP.l2d (k + (1 : Int64)))), .second, .val (.double (FP.dmul (4611686018427387904 : UInt64) rs)), .second, .val (.double (FP.l2d (((2 : Int64) * k) + (1 : Int64)))), .second, .val (.int (1 : Int32)), .val (.long d), .second] []))
          refine Ends.pre (fun tt kt => XS.lload X12.here hx rfl (hb hby at_292) rfl kt) ?_
          show Ends p e below _ (T12.setTop (mkF m 294 #[.val (.int x0), .val (.int y0), .val (.int k0), .val (.int r0), .val (.long v0), .second, .val (.int m0), .val (.int i), .val (.int s0), .val (.int mm), .val (.int n), .val (.long k), .second, .val (.long r), .second, .val (.long a), .second, .val (.double rs), .second, .val (.double (FP.l2d k)), .second, .val (.double (FP.l2d (k + (1 : Int64)))), .second, .val (.double (FP.dmul (4611686018427387904 : UInt64) rs)), .second, .val (.double (FP.l2d (((2 : Int64) * k) + (1 : Int64)))), .second, .val (.int (1 : Int32)), .val (.long d), .second] [(.long d)]))
          refine Ends.pre (fun tt kt => XS.lconst X12.here hx rfl (hb hby at_294) kt) ?_
          show Ends p e below _ (T12.setTop (mkF m 295 #[.val (.int x0), .val (.int y0), .val (.int k0), .val (.int r0), .val (.long v0), .second, .val (.int m0), .val (.int i), .val (.int s0), .val (.int mm), .val (.int n), .val (.long k), .second, .val (.long r), .second, .val (.long a), .second, .val (.double rs), .second, .val (.double (FP.l2d k)), .second, .val (.double (FP.l2d (k + (1 : Int64)))), .second, .val (.double (FP.dmul (4611686018427387904 : UInt64) rs)), .second, .val (.double (FP.l2d (((2 : Int64) * k) + (1 : Int64)))), .second, .val (.int (1 : Int32)), .val (.long d), .second] [(.long (0 : Int64)), (.long d)]))
          refine Ends.pre (fun tt kt => XS.lcmp X12.here hx rfl (hb hby at_295) rfl kt) ?_
          show Ends p e below _ (T12.setTop (mkF m 296 #[.val (.int x0), .val (.int y0), .val (.int k0), .val (.int r0), .val (.long v0), .second, .val (.int m0), .val (.int i), .val (.int s0), .val (.int mm), .val (.int n), .val (.long k), .second, .val (.long r), .second, .val (.long a), .second, .val (.double rs), .second, .val (.double (FP.l2d k)), .second, .val (.double (FP.l2d (k + (1 : Int64)))), .second, .val (.double (FP.dmul (4611686018427387904 : UInt64) rs)), .second, .val (.double (FP.l2d (((2 : Int64) * k) + (1 : Int64)))), .second, .val (.int (1 : Int32)), .val (.long d), .second] [(.int (lcmpW d (0 : Int64)))]))
          by_cases hd1 : d = (0 : Int64)
          ·
            refine Ends.pre (fun tt kt => XS.ifNo X12.here hx rfl (hb hby at_296) rfl ((if0 _ _).trans (teq ((lw_eq _ _).mpr hd1)).2) kt) ?_
            show Ends p e below _ (T12.setTop (mkF m 299 #[.val (.int x0), .val (.int y0), .val (.int k0), .val (.int r0), .val (.long v0), .second, .val (.int m0), .val (.int i), .val (.int s0), .val (.int mm), .val (.int n), .val (.long k), .second, .val (.long r), .second, .val (.long a), .second, .val (.double rs), .second, .val (.double (FP.l2d k)), .second, .val (.double (FP.l2d (k + (1 : Int64)))), .second, .val (.double (FP.dmul (4611686018427387904 : UInt64) rs)), .second, .val (.double (FP.l2d (((2 : Int64) * k) + (1 : Int64)))), .second, .val (.int (1 : Int32)), .val (.long d), .second] []))
            refine Ends.pre (fun tt kt => XS.iload X12.here hx rfl (hb hby at_299) rfl kt) ?_
            show Ends p e below _ (T12.setTop (mkF m 301 #[.val (.int x0), .val (.int y0), .val (.int k0), .val (.int r0), .val (.long v0), .second, .val (.int m0), .val (.int i), .val (.int s0), .val (.int mm), .val (.int n), .val (.long k), .second, .val (.long r), .second, .val (.long a), .second, .val (.double rs), .second, .val (.double (FP.l2d k)), .second, .val (.double (FP.l2d (k + (1 : Int64)))), .second, .val (.double (FP.dmul (4611686018427387904 : UInt64) rs)), .second, .val (.double (FP.l2d (((2 : Int64) * k) + (1 : Int64)))), .second, .val (.int (1 : Int32)), .val (.long d), .second] [(.int (1 : Int32))]))
            refine Ends.pre (fun tt kt => XS.ifNo X12.here hx rfl (hb hby at_301) rfl ((if0 _ _).trans (feq (by decide)).1) kt) ?_
            show Ends p e below _ (T12.setTop (mkF m 304 #[.val (.int x0), .val (.int y0), .val (.int k0), .val (.int r0), .val (.long v0), .second, .val (.int m0), .val (.int i), .val (.int s0), .val (.int mm), .val (.int n), .val (.long k), .second, .val (.long r), .second, .val (.long a), .second, .val (.double rs), .second, .val (.double (FP.l2d k)), .second, .val (.double (FP.l2d (k + (1 : Int64)))), .second, .val (.double (FP.dmul (4611686018427387904 : UInt64) rs)), .second, .val (.double (FP.l2d (((2 : Int64) * k) + (1 : Int64)))), .second, .val (.int (1 : Int32)), .val (.long d), .second] []))
            refine Ends.pre (fun tt kt => XS.dload X12.here hx rfl (hb hby at_304) rfl kt) ?_
            show Ends p e below _ (T12.setTop (mkF m 306 #[.val (.int x0), .val (.int y0), .val (.int k0), .val (.int r0), .val (.long v0), .second, .val (.int m0), .val (.int i), .val (.int s0), .val (.int mm), .val (.int n), .val (.long k), .second, .val (.long r), .second, .val (.long a), .second, .val (.double rs), .second, .val (.double (FP.l2d k)), .second, .val (.double (FP.l2d (k + (1 : Int64)))), .second, .val (.double (FP.dmul (4611686018427387904 : UInt64) rs)), .second, .val (.double (FP.l2d (((2 : Int64) * k) + (1 : Int64)))), .second, .val (.int (1 : Int32)), .val (.long d), .second] [(.double (FP.dmul (4611686018427387904 : UInt64) rs))]))
            refine Ends.pre (fun tt kt => XS.dload X12.here hx rfl (hb hby at_306) rfl kt) ?_
            show Ends p e below _ (T12.setTop (mkF m 308 #[.val (.int x0), .val (.int y0), .val (.int k0), .val (.int r0), .val (.long v0), .second, .val (.int m0), .val (.int i), .val (.int s0), .val (.int mm), .val (.int n), .val (.long k), .second, .val (.long r), .second, .val (.long a), .second, .val (.double rs), .second, .val (.double (FP.l2d k)), .second, .val (.double (FP.l2d (k + (1 : Int64)))), .second, .val (.double (FP.dmul (4611686018427387904 : UInt64) rs)), .second, .val (.double (FP.l2d (((2 : Int64) * k) + (1 : Int64)))), .second, .val (.int (1 : Int32)), .val (.long d), .second] [(.double (FP.l2d (((2 : Int64) * k) + (1 : Int64)))), (.double (FP.dmul (4611686018427387904 : UInt64) rs))]))
            refine Ends.pre (fun tt kt => XS.dcmpS X12.here hx rfl (v := (0 : Int32)) (hb hby at_308) rfl (own_cv_eq .l (NN.eq nt nm (ze (own_de hdN hd1)))) kt) ?_
            show Ends p e below _ (T12.setTop (mkF m 309 #[.val (.int x0), .val (.int y0), .val (.int k0), .val (.int r0), .val (.long v0), .second, .val (.int m0), .val (.int i), .val (.int s0), .val (.int mm), .val (.int n), .val (.long k), .second, .val (.long r), .second, .val (.long a), .second, .val (.double rs), .second, .val (.double (FP.l2d k)), .second, .val (.double (FP.l2d (k + (1 : Int64)))), .second, .val (.double (FP.dmul (4611686018427387904 : UInt64) rs)), .second, .val (.double (FP.l2d (((2 : Int64) * k) + (1 : Int64)))), .second, .val (.int (1 : Int32)), .val (.long d), .second] [(.int (0 : Int32))]))
            refine Ends.pre (fun tt kt => XS.ifNo X12.here hx rfl (hb hby at_309) rfl ((if0 _ _).trans (teq rfl).2) kt) ?_
            show Ends p e below _ (T12.setTop (mkF m 312 #[.val (.int x0), .val (.int y0), .val (.int k0), .val (.int r0), .val (.long v0), .second, .val (.int m0), .val (.int i), .val (.int s0), .val (.int mm), .val (.int n), .val (.long k), .second, .val (.long r), .second, .val (.long a), .second, .val (.double rs), .second, .val (.double (FP.l2d k)), .second, .val (.double (FP.l2d (k + (1 : Int64)))), .second, .val (.double (FP.dmul (4611686018427387904 : UInt64) rs)), .second, .val (.double (FP.l2d (((2 : Int64) * k) + (1 : Int64)))), .second, .val (.int (1 : Int32)), .val (.long d), .second] []))
            refine Ends.pre (fun tt kt => XS.iconst X12.here hx rfl (hb hby at_312) kt) ?_
            show Ends p e below _ (T12.setTop (mkF m 313 #[.val (.int x0), .val (.int y0), .val (.int k0), .val (.int r0), .val (.long v0), .second, .val (.int m0), .val (.int i), .val (.int s0), .val (.int mm), .val (.int n), .val (.long k), .second, .val (.long r), .second, .val (.long a), .second, .val (.double rs), .second, .val (.double (FP.l2d k)), .second, .val (.double (FP.l2d (k + (1 : Int64)))), .second, .val (.double (FP.dmul (4611686018427387904 : UInt64) rs)), .second, .val (.double (FP.l2d (((2 : Int64) * k) + (1 : Int64)))), .second, .val (.int (1 : Int32)), .val (.long d), .second] [(.int (1 : Int32))]))
            refine Ends.pre (fun tt kt => XS.goto X12.here hx rfl (pc0 := 313) (pc' := 317) rfl (hb hby at_313) (by decide) (by decide) kt) ?_
            show Ends p e below _ (T12.setTop (mkF m 317 #[.val (.int x0), .val (.int y0), .val (.int k0), .val (.int r0), .val (.long v0), .second, .val (.int m0), .val (.int i), .val (.int s0), .val (.int mm), .val (.int n), .val (.long k), .second, .val (.long r), .second, .val (.long a), .second, .val (.double rs), .second, .val (.double (FP.l2d k)), .second, .val (.double (FP.l2d (k + (1 : Int64)))), .second, .val (.double (FP.dmul (4611686018427387904 : UInt64) rs)), .second, .val (.double (FP.l2d (((2 : Int64) * k) + (1 : Int64)))), .second, .val (.int (1 : Int32)), .val (.long d), .second] [(.int (1 : Int32))]))
            obtain ⟨fs, hr, hrun, hended, hW, hsame⟩ := X12.leave (v := some (.int (1 : Int32))) (fun h => by rw [Bd.returns] at h; cases h)
            refine ⟨_, _, retN X12 hx (t := .boolean) Bd.returns (by simp) (hb hby at_317) hr, hrun, hended, _, _, rfl, ?_, ⟨_, rfl⟩, hW, hsame.mono (by decide) (by decide)⟩
            show Q0 Z _ _ _ _ _ _ h0 n0 _ T12.heap _
            rw [e12]
            exact ⟨rfl, N12⟩
          ·
            refine Ends.pre (fun tt kt => XS.ifYes X12.here hx rfl (pc0 := 296) (pc' := 318) rfl (hb hby at_296) rfl ((if0 _ _).trans (feq (mt (lw_eq _ _).mp hd1)).2) (by decide) (by decide) kt) ?_
            show Ends p e below _ (T12.setTop (mkF m 318 #[.val (.int x0), .val (.int y0), .val (.int k0), .val (.int r0), .val (.long v0), .second, .val (.int m0), .val (.int i), .val (.int s0), .val (.int mm), .val (.int n), .val (.long k), .second, .val (.long r), .second, .val (.long a), .second, .val (.double rs), .second, .val (.double (FP.l2d k)), .second, .val (.double (FP.l2d (k + (1 : Int64)))), .second, .val (.double (FP.dmul (4611686018427387904 : UInt64) rs)), .second, .val (.double (FP.l2d (((2 : Int64) * k) + (1 : Int64)))), .second, .val (.int (1 : Int32)), .val (.long d), .second] []))
            refine Ends.pre (fun tt kt => XS.iload X12.here hx rfl (hb hby at_318) rfl kt) ?_
            show Ends p e below _ (T12.setTop (mkF m 320 #[.val (.int x0), .val (.int y0), .val (.int k0), .val (.int r0), .val (.long v0), .second, .val (.int m0), .val (.int i), .val (.int s0), .val (.int mm), .val (.int n), .val (.long k), .second, .val (.long r), .second, .val (.long a), .second, .val (.double rs), .second, .val (.double (FP.l2d k)), .second, .val (.double (FP.l2d (k + (1 : Int64)))), .second, .val (.double (FP.dmul (4611686018427387904 : UInt64) rs)), .second, .val (.double (FP.l2d (((2 : Int64) * k) + (1 : Int64)))), .second, .val (.int (1 : Int32)), .val (.long d), .second] [(.int (1 : Int32))]))
            refine Ends.pre (fun tt kt => XS.ifNo X12.here hx rfl (hb hby at_320) rfl ((if0 _ _).trans (feq (by decide)).1) kt) ?_
            show Ends p e below _ (T12.setTop (mkF m 323 #[.val (.int x0), .val (.int y0), .val (.int k0), .val (.int r0), .val (.long v0), .second, .val (.int m0), .val (.int i), .val (.int s0), .val (.int mm), .val (.int n), .val (.long k), .second, .val (.long r), .second, .val (.long a), .second, .val (.double rs), .second, .val (.double (FP.l2d k)), .second, .val (.double (FP.l2d (k + (1 : Int64)))), .second, .val (.double (FP.dmul (4611686018427387904 : UInt64) rs)), .second, .val (.double (FP.l2d (((2 : Int64) * k) + (1 : Int64)))), .second, .val (.int (1 : Int32)), .val (.long d), .second] []))
            refine Ends.pre (fun tt kt => XS.dload X12.here hx rfl (hb hby at_323) rfl kt) ?_
            show Ends p e below _ (T12.setTop (mkF m 325 #[.val (.int x0), .val (.int y0), .val (.int k0), .val (.int r0), .val (.long v0), .second, .val (.int m0), .val (.int i), .val (.int s0), .val (.int mm), .val (.int n), .val (.long k), .second, .val (.long r), .second, .val (.long a), .second, .val (.double rs), .second, .val (.double (FP.l2d k)), .second, .val (.double (FP.l2d (k + (1 : Int64)))), .second, .val (.double (FP.dmul (4611686018427387904 : UInt64) rs)), .second, .val (.double (FP.l2d (((2 : Int64) * k) + (1 : Int64)))), .second, .val (.int (1 : Int32)), .val (.long d), .second] [(.double (FP.dmul (4611686018427387904 : UInt64) rs))]))
            refine Ends.pre (fun tt kt => XS.dload X12.here hx rfl (hb hby at_325) rfl kt) ?_
            show Ends p e below _ (T12.setTop (mkF m 327 #[.val (.int x0), .val (.int y0), .val (.int k0), .val (.int r0), .val (.long v0), .second, .val (.int m0), .val (.int i), .val (.int s0), .val (.int mm), .val (.int n), .val (.long k), .second, .val (.long r), .second, .val (.long a), .second, .val (.double rs), .second, .val (.double (FP.l2d k)), .second, .val (.double (FP.l2d (k + (1 : Int64)))), .second, .val (.double (FP.dmul (4611686018427387904 : UInt64) rs)), .second, .val (.double (FP.l2d (((2 : Int64) * k) + (1 : Int64)))), .second, .val (.int (1 : Int32)), .val (.long d), .second] [(.double (FP.l2d (((2 : Int64) * k) + (1 : Int64)))), (.double (FP.dmul (4611686018427387904 : UInt64) rs))]))
            refine Ends.pre (fun tt kt => XS.dcmpS X12.here hx rfl (v := (1 : Int32)) (hb hby at_327) rfl (own_cv_gt .l (NN.gt nt nm (zg (own_dg hdN hd0 hd1)))) kt) ?_
            show Ends p e below _ (T12.setTop (mkF m 328 #[.val (.int x0), .val (.int y0), .val (.int k0), .val (.int r0), .val (.long v0), .second, .val (.int m0), .val (.int i), .val (.int s0), .val (.int mm), .val (.int n), .val (.long k), .second, .val (.long r), .second, .val (.long a), .second, .val (.double rs), .second, .val (.double (FP.l2d k)), .second, .val (.double (FP.l2d (k + (1 : Int64)))), .second, .val (.double (FP.dmul (4611686018427387904 : UInt64) rs)), .second, .val (.double (FP.l2d (((2 : Int64) * k) + (1 : Int64)))), .second, .val (.int (1 : Int32)), .val (.long d), .second] [(.int (1 : Int32))]))
            refine Ends.pre (fun tt kt => XS.ifNo X12.here hx rfl (hb hby at_328) rfl ((if0 _ _).trans (tlt (by decide)).2.2.2) kt) ?_
            show Ends p e below _ (T12.setTop (mkF m 331 #[.val (.int x0), .val (.int y0), .val (.int k0), .val (.int r0), .val (.long v0), .second, .val (.int m0), .val (.int i), .val (.int s0), .val (.int mm), .val (.int n), .val (.long k), .second, .val (.long r), .second, .val (.long a), .second, .val (.double rs), .second, .val (.double (FP.l2d k)), .second, .val (.double (FP.l2d (k + (1 : Int64)))), .second, .val (.double (FP.dmul (4611686018427387904 : UInt64) rs)), .second, .val (.double (FP.l2d (((2 : Int64) * k) + (1 : Int64)))), .second, .val (.int (1 : Int32)), .val (.long d), .second] []))
            refine Ends.pre (fun tt kt => XS.iconst X12.here hx rfl (hb hby at_331) kt) ?_
            show Ends p e below _ (T12.setTop (mkF m 332 #[.val (.int x0), .val (.int y0), .val (.int k0), .val (.int r0), .val (.long v0), .second, .val (.int m0), .val (.int i), .val (.int s0), .val (.int mm), .val (.int n), .val (.long k), .second, .val (.long r), .second, .val (.long a), .second, .val (.double rs), .second, .val (.double (FP.l2d k)), .second, .val (.double (FP.l2d (k + (1 : Int64)))), .second, .val (.double (FP.dmul (4611686018427387904 : UInt64) rs)), .second, .val (.double (FP.l2d (((2 : Int64) * k) + (1 : Int64)))), .second, .val (.int (1 : Int32)), .val (.long d), .second] [(.int (1 : Int32))]))
            refine Ends.pre (fun tt kt => XS.goto X12.here hx rfl (pc0 := 332) (pc' := 336) rfl (hb hby at_332) (by decide) (by decide) kt) ?_
            show Ends p e below _ (T12.setTop (mkF m 336 #[.val (.int x0), .val (.int y0), .val (.int k0), .val (.int r0), .val (.long v0), .second, .val (.int m0), .val (.int i), .val (.int s0), .val (.int mm), .val (.int n), .val (.long k), .second, .val (.long r), .second, .val (.long a), .second, .val (.double rs), .second, .val (.double (FP.l2d k)), .second, .val (.double (FP.l2d (k + (1 : Int64)))), .second, .val (.double (FP.dmul (4611686018427387904 : UInt64) rs)), .second, .val (.double (FP.l2d (((2 : Int64) * k) + (1 : Int64)))), .second, .val (.int (1 : Int32)), .val (.long d), .second] [(.int (1 : Int32))]))
            obtain ⟨fs, hr, hrun, hended, hW, hsame⟩ := X12.leave (v := some (.int (1 : Int32))) (fun h => by rw [Bd.returns] at h; cases h)
            refine ⟨_, _, retN X12 hx (t := .boolean) Bd.returns (by simp) (hb hby at_336) hr, hrun, hended, _, _, rfl, ?_, ⟨_, rfl⟩, hW, hsame.mono (by decide) (by decide)⟩
            show Q0 Z _ _ _ _ _ _ h0 n0 _ T12.heap _
            rw [e12]
            exact ⟨rfl, N12⟩
    ·
      refine Ends.pre (fun tt kt => XS.icmpNo X0.here hx rfl (hb hby at_66) rfl (flt hgt).2.2.1 kt) ?_
      show Ends p e below _ (s₁.setTop (mkF m 69 #[.val (.int x0), .val (.int y0), .val (.int k0), .val (.int r0), .val (.long v0), .second, .val (.int m0), .val (.int i), .val (.int s0), .val (.int mm), .val (.int n), .unset, .unset, .unset, .unset, .unset, .unset, .unset, .unset, .unset, .unset, .unset, .unset, .unset, .unset, .unset, .unset, .unset, .unset, .unset] []))
      refine Ends.pre (fun tt kt => XS.lload X0.here hx rfl (hb hby at_69) rfl kt) ?_
      show Ends p e below _ (s₁.setTop (mkF m 71 #[.val (.int x0), .val (.int y0), .val (.int k0), .val (.int r0), .val (.long v0), .second, .val (.int m0), .val (.int i), .val (.int s0), .val (.int mm), .val (.int n), .unset, .unset, .unset, .unset, .unset, .unset, .unset, .unset, .unset, .unset, .unset, .unset, .unset, .unset, .unset, .unset, .unset, .unset, .unset] [(.long v0)]))
      refine Ends.pre (fun tt kt => X0.ldc2Long hx hown (mvT hZ (hw _ (List.mem_of_getElem? (i := 2) rfl))) (g := (mkF m 71 #[.val (.int x0), .val (.int y0), .val (.int k0), .val (.int r0), .val (.long v0), .second, .val (.int m0), .val (.int i), .val (.int s0), .val (.int mm), .val (.int n), .unset, .unset, .unset, .unset, .unset, .unset, .unset, .unset, .unset, .unset, .unset, .unset, .unset, .unset, .unset, .unset, .unset, .unset, .unset] [(.long v0)])) rfl (hb hby at_71) _ kt) ?_
      show Ends p e below _ (s₁.setTop (mkF m 74 #[.val (.int x0), .val (.int y0), .val (.int k0), .val (.int r0), .val (.long v0), .second, .val (.int m0), .val (.int i), .val (.int s0), .val (.int mm), .val (.int n), .unset, .unset, .unset, .unset, .unset, .unset, .unset, .unset, .unset, .unset, .unset, .unset, .unset, .unset, .unset, .unset, .unset, .unset, .unset] [(.long (9223372036854775807 : Int64)), (.long v0)]))
      refine Ends.pre (fun tt kt => XS.land X0.here hx rfl (hb hby at_74) rfl kt) ?_
      show Ends p e below _ (s₁.setTop (mkF m 75 #[.val (.int x0), .val (.int y0), .val (.int k0), .val (.int r0), .val (.long v0), .second, .val (.int m0), .val (.int i), .val (.int s0), .val (.int mm), .val (.int n), .unset, .unset, .unset, .unset, .unset, .unset, .unset, .unset, .unset, .unset, .unset, .unset, .unset, .unset, .unset, .unset, .unset, .unset, .unset] [(.long (v0 &&& (9223372036854775807 : Int64)))]))
      obtain ⟨a, ha⟩ : ∃ z, z = (v0 &&& (9223372036854775807 : Int64)) := ⟨_, rfl⟩
      rw [← ha]
      show Ends p e below _ (s₁.setTop (mkF m 75 #[.val (.int x0), .val (.int y0), .val (.int k0), .val (.int r0), .val (.long v0), .second, .val (.int m0), .val (.int i), .val (.int s0), .val (.int mm), .val (.int n), .unset, .unset, .unset, .unset, .unset, .unset, .unset, .unset, .unset, .unset, .unset, .unset, .unset, .unset, .unset, .unset, .unset, .unset, .unset] [(.long a)]))
      have gA : ¬ a < (0 : Int64) := by rw [ha]; exact own_maskL v0
      refine Ends.pre (fun tt kt => XS.lstore X0.here hx rfl (hb hby at_75) rfl (l' := #[.val (.int x0), .val (.int y0), .val (.int k0), .val (.int r0), .val (.long v0), .second, .val (.int m0), .val (.int i), .val (.int s0), .val (.int mm), .val (.int n), .val (.long a), .second, .unset, .unset, .unset, .unset, .unset, .unset, .unset, .unset, .unset, .unset, .unset, .unset, .unset, .unset, .unset, .unset, .unset]) rfl kt) ?_
      show Ends p e below _ (s₁.setTop (mkF m 77 #[.val (.int x0), .val (.int y0), .val (.int k0), .val (.int r0), .val (.long v0), .second, .val (.int m0), .val (.int i), .val (.int s0), .val (.int mm), .val (.int n), .val (.long a), .second, .unset, .unset, .unset, .unset, .unset, .unset, .unset, .unset, .unset, .unset, .unset, .unset, .unset, .unset, .unset, .unset, .unset] []))
      obtain ⟨T13, h13, X13, e13, E13, A13, D13, -, st13⟩ := newO X0 hx hZ hown (hw _ (List.mem_of_getElem? (i := 3) rfl)) (hw _ (List.mem_of_getElem? (i := 4) rfl)) (hw _ (List.mem_of_getElem? (i := 5) rfl)) e0 (g := (mkF m 77 #[.val (.int x0), .val (.int y0), .val (.int k0), .val (.int r0), .val (.long v0), .second, .val (.int m0), .val (.int i), .val (.int s0), .val (.int mm), .val (.int n), .val (.long a), .second, .unset, .unset, .unset, .unset, .unset, .unset, .unset, .unset, .unset, .unset, .unset, .unset, .unset, .unset, .unset, .unset, .unset] [])) rfl (hb hby at_77) (by decide) (by decide)
      obtain ⟨b13, g13⟩ : ∃ z, z = h0.size := ⟨_, rfl⟩
      rw [← g13] at A13 D13 st13
      have g_b13 : n0 ≤ b13 := Nat.le_trans Z0 (Nat.le_of_eq g13.symm)
      have Z0 := Nat.le_trans Z0 E13.1
      have F_instances_b13 : Fld Z h13 b13 "com/example/selvage/selvage/ZoneStats" "instances" "I" (.int (0 : Int32)) := D13 (Or.inr (hw _ (List.mem_of_getElem? (i := 18) rfl))) (ty := .int) (by decide)
      have F_skipped_b13 : Fld Z h13 b13 "com/example/selvage/selvage/ZoneStats" "skipped" "I" (.int (0 : Int32)) := D13 (Or.inr (hw _ (List.mem_of_getElem? (i := 20) rfl))) (ty := .int) (by decide)
      have F_activeRequests_b13 : Fld Z h13 b13 "com/example/selvage/selvage/ZoneStats" "activeRequests" "J" (.long (0 : Int64)) := D13 (Or.inr (hw _ (List.mem_of_getElem? (i := 22) rfl))) (ty := .long) (by decide)
      have E_b13 := A13
      refine Ends.pre (fun tt kt => st13 _ kt) ?_
      show Ends p e below _ (T13.setTop (mkF m 80 #[.val (.int x0), .val (.int y0), .val (.int k0), .val (.int r0), .val (.long v0), .second, .val (.int m0), .val (.int i), .val (.int s0), .val (.int mm), .val (.int n), .val (.long a), .second, .unset, .unset, .unset, .unset, .unset, .unset, .unset, .unset, .unset, .unset, .unset, .unset, .unset, .unset, .unset, .unset, .unset] [(.ref b13)]))
      refine Ends.pre (fun tt kt => XS.dup X13.here hx rfl (hb hby at_80) rfl rfl kt) ?_
      show Ends p e below _ (T13.setTop (mkF m 81 #[.val (.int x0), .val (.int y0), .val (.int k0), .val (.int r0), .val (.long v0), .second, .val (.int m0), .val (.int i), .val (.int s0), .val (.int mm), .val (.int n), .val (.long a), .second, .unset, .unset, .unset, .unset, .unset, .unset, .unset, .unset, .unset, .unset, .unset, .unset, .unset, .unset, .unset, .unset, .unset] [(.ref b13), (.ref b13)]))
      refine Ends.pre (fun tt kt => XS.iload X13.here hx rfl (hb hby at_81) rfl kt) ?_
      show Ends p e below _ (T13.setTop (mkF m 83 #[.val (.int x0), .val (.int y0), .val (.int k0), .val (.int r0), .val (.long v0), .second, .val (.int m0), .val (.int i), .val (.int s0), .val (.int mm), .val (.int n), .val (.long a), .second, .unset, .unset, .unset, .unset, .unset, .unset, .unset, .unset, .unset, .unset, .unset, .unset, .unset, .unset, .unset, .unset, .unset] [(.int i), (.ref b13), (.ref b13)]))
      refine Ends.pre (fun tt kt => XS.iload X13.here hx rfl (hb hby at_83) rfl kt) ?_
      show Ends p e below _ (T13.setTop (mkF m 85 #[.val (.int x0), .val (.int y0), .val (.int k0), .val (.int r0), .val (.long v0), .second, .val (.int m0), .val (.int i), .val (.int s0), .val (.int mm), .val (.int n), .val (.long a), .second, .unset, .unset, .unset, .unset, .unset, .unset, .unset, .unset, .unset, .unset, .unset, .unset, .unset, .unset, .unset, .unset, .unset] [(.int s0), (.int i), (.ref b13), (.ref b13)]))
      refine Ends.pre (fun tt kt => XS.lload X13.here hx rfl (hb hby at_85) rfl kt) ?_
      show Ends p e below _ (T13.setTop (mkF m 87 #[.val (.int x0), .val (.int y0), .val (.int k0), .val (.int r0), .val (.long v0), .second, .val (.int m0), .val (.int i), .val (.int s0), .val (.int mm), .val (.int n), .val (.long a), .second, .unset, .unset, .unset, .unset, .unset, .unset, .unset, .unset, .unset, .unset, .unset, .unset, .unset, .unset, .unset, .unset, .unset] [(.long a), (.int s0), (.int i), (.ref b13), (.ref b13)]))
      obtain ⟨_, _, ⟨T14, L14, k14, n14⟩, -, X14, ⟨Lc14, hQ14, l14, y14, z14⟩, st14⟩ := X13.specialBack hx (y := (⟨"com/example/selvage/selvage/ZoneStats", "<init>", "(IIJ)V"⟩ : MethodName)) rfl hown (mvT hZ (hw _ (List.mem_of_getElem? (i := 6) rfl))) (mvT hZ (hw _ (List.mem_of_getElem? (i := 7) rfl))) (mvT hZ (hw _ (List.mem_of_getElem? (i := 8) rfl))) (by decide) (backOf (W := 1) (rm2 l Z a0 hw [] b13 i s0 a h13 n0 Z0 F_instances_b13 F_skipped_b13 F_activeRequests_b13 E_b13 g_b13 g1 g2 g3 gA) hZ (hw _ (List.mem_of_getElem? (i := 8) rfl)) (hw _ (List.mem_of_getElem? (i := 5) rfl)) (by decide) (by decide)) (g := (mkF m 87 #[.val (.int x0), .val (.int y0), .val (.int k0), .val (.int r0), .val (.long v0), .second, .val (.int m0), .val (.int i), .val (.int s0), .val (.int mm), .val (.int n), .val (.long a), .second, .unset, .unset, .unset, .unset, .unset, .unset, .unset, .unset, .unset, .unset, .unset, .unset, .unset, .unset, .unset, .unset, .unset] [(.long a), (.int s0), (.int i), (.ref b13), (.ref b13)])) rfl (by rw [hml]; rfl) (Steps.refl _) (a := b13) (argsL := [(.int i), (.int s0), (.long a)]) (rest := [(.ref b13)]) (lenOf pd0_0 rfl) rfl (by show 2 * 0 + _ ≤ _; exact Nat.le_of_eq rfl) (hb hby at_87) (fun _ _ => ⟨rfl, e13, (show (1 : Nat) + (0 : Nat) ≤ _ from by decide), (show (3 : Nat) + (0 : Nat) ≤ _ from by decide)⟩)
      dsimp only [Pt.U, Pt.locs, Pt.cells, Pt.slots] at X14 l14 y14 z14 st14 hQ14
      subst l14 y14 z14
      obtain ⟨rfl, N14q, K14, G14_0, G14_1, G14_2, G14_3⟩ := hQ14
      have Z0 := Nat.le_trans Z0 K14.1
      have E_b13 := G14_0
      have F_instances_b13 := G14_1
      have F_skipped_b13 := G14_2
      have F_activeRequests_b13 := G14_3
      have N14 := Fr.app N0 N14q
      refine Ends.pre (fun tt kt => st14.trans kt) ?_
      show Ends p e below _ (T14.setTop (mkF m 90 #[.val (.int x0), .val (.int y0), .val (.int k0), .val (.int r0), .val (.long v0), .second, .val (.int m0), .val (.int i), .val (.int s0), .val (.int mm), .val (.int n), .val (.long a), .second, .unset, .unset, .unset, .unset, .unset, .unset, .unset, .unset, .unset, .unset, .unset, .unset, .unset, .unset, .unset, .unset, .unset] [(.ref b13)]))
      obtain ⟨cq15, kq15, q15a, q15b, q15c⟩ := isOf hZ rfl E_b13
      obtain ⟨_, _, ⟨T15, L15, k15, n15⟩, -, X15, ⟨Lc15, hQ15, l15, y15, z15⟩, st15⟩ := X14.virtualBack hx (y := (⟨"com/example/selvage/selvage/ZoneStats", "loadPerServer", "()D"⟩ : MethodName)) (z := (⟨"com/example/selvage/selvage/ZoneStats", "loadPerServer", "()D"⟩ : MethodName)) hown (mvT hZ (hw _ (List.mem_of_getElem? (i := 23) rfl))) (mvT hZ (hw _ (List.mem_of_getElem? (i := 24) rfl))) (notFace_of_selects (args := #[]) (mvT hZ (hw _ (List.mem_of_getElem? (i := 26) rfl)))) (mvT hZ (hw _ (List.mem_of_getElem? (i := 26) rfl))) (mvT hZ (hw _ (List.mem_of_getElem? (i := 25) rfl))) (by decide) (backOf (W := 0) (rm4 l Z a0 hw [] b13 i s0 a T14.heap n0 Z0 F_instances_b13 F_skipped_b13 F_activeRequests_b13 E_b13) hZ (hw _ (List.mem_of_getElem? (i := 27) rfl)) (hw _ (List.mem_of_getElem? (i := 5) rfl)) (by decide) (by decide)) q15a q15c (g := (mkF m 90 #[.val (.int x0), .val (.int y0), .val (.int k0), .val (.int r0), .val (.long v0), .second, .val (.int m0), .val (.int i), .val (.int s0), .val (.int mm), .val (.int n), .val (.long a), .second, .unset, .unset, .unset, .unset, .unset, .unset, .unset, .unset, .unset, .unset, .unset, .unset, .unset, .unset, .unset, .unset, .unset] [(.ref b13)])) rfl (by rw [hml]; rfl) (Steps.refl _) (argsL := []) (rest := []) (lenOf pd0_1 rfl) rfl (by show 2 * 0 + _ ≤ _; exact Nat.le_of_eq rfl) (hb hby at_90) (fun _ _ => ⟨rfl, rfl, (show (1 : Nat) + (0 : Nat) ≤ _ from by decide), (show (3 : Nat) + (0 : Nat) ≤ _ from by decide)⟩)
      dsimp only [Pt.U, Pt.locs, Pt.cells, Pt.slots] at X15 l15 y15 z15 st15 hQ15
      subst l15 y15 z15
      obtain ⟨rfl, N15q, e15⟩ := hQ15
      have N15 := Fr.app N14 N15q
      refine Ends.pre (fun tt kt => st15.trans kt) ?_
      show Ends p e below _ (T15.setTop (mkF m 93 #[.val (.int x0), .val (.int y0), .val (.int k0), .val (.int r0), .val (.long v0), .second, .val (.int m0), .val (.int i), .val (.int s0), .val (.int mm), .val (.int n), .val (.long a), .second, .unset, .unset, .unset, .unset, .unset, .unset, .unset, .unset, .unset, .unset, .unset, .unset, .unset, .unset, .unset, .unset, .unset] [(.double (own_load a (i - s0)))]))
      rw [← hn]
      show Ends p e below _ (T15.setTop (mkF m 93 #[.val (.int x0), .val (.int y0), .val (.int k0), .val (.int r0), .val (.long v0), .second, .val (.int m0), .val (.int i), .val (.int s0), .val (.int mm), .val (.int n), .val (.long a), .second, .unset, .unset, .unset, .unset, .unset, .unset, .unset, .unset, .unset, .unset, .unset, .unset, .unset, .unset, .unset, .unset, .unset] [(.double (own_load a n))]))
      refine Ends.pre (fun tt kt => XS.dstore X15.here hx rfl (hb hby at_93) rfl (l' := #[.val (.int x0), .val (.int y0), .val (.int k0), .val (.int r0), .val (.long v0), .second, .val (.int m0), .val (.int i), .val (.int s0), .val (.int mm), .val (.int n), .val (.long a), .second, .val (.double (own_load a n)), .second, .unset, .unset, .unset, .unset, .unset, .unset, .unset, .unset, .unset, .unset, .unset, .unset, .unset, .unset, .unset]) rfl kt) ?_
      show Ends p e below _ (T15.setTop (mkF m 95 #[.val (.int x0), .val (.int y0), .val (.int k0), .val (.int r0), .val (.long v0), .second, .val (.int m0), .val (.int i), .val (.int s0), .val (.int mm), .val (.int n), .val (.long a), .second, .val (.double (own_load a n)), .second, .unset, .unset, .unset, .unset, .unset, .unset, .unset, .unset, .unset, .unset, .unset, .unset, .unset, .unset, .unset] []))
      refine Ends.pre (fun tt kt => XS.iload X15.here hx rfl (hb hby at_95) rfl kt) ?_
      show Ends p e below _ (T15.setTop (mkF m 97 #[.val (.int x0), .val (.int y0), .val (.int k0), .val (.int r0), .val (.long v0), .second, .val (.int m0), .val (.int i), .val (.int s0), .val (.int mm), .val (.int n), .val (.long a), .second, .val (.double (own_load a n)), .second, .unset, .unset, .unset, .unset, .unset, .unset, .unset, .unset, .unset, .unset, .unset, .unset, .unset, .unset, .unset] [(.int n)]))
      by_cases hn0 : n = (0 : Int32)
      ·
        refine Ends.pre (fun tt kt => XS.ifNo X15.here hx rfl (hb hby at_97) rfl ((if0 _ _).trans (teq hn0).2) kt) ?_
        show Ends p e below _ (T15.setTop (mkF m 100 #[.val (.int x0), .val (.int y0), .val (.int k0), .val (.int r0), .val (.long v0), .second, .val (.int m0), .val (.int i), .val (.int s0), .val (.int mm), .val (.int n), .val (.long a), .second, .val (.double (own_load a n)), .second, .unset, .unset, .unset, .unset, .unset, .unset, .unset, .unset, .unset, .unset, .unset, .unset, .unset, .unset, .unset] []))
        refine Ends.pre (fun tt kt => XS.dload X15.here hx rfl (hb hby at_100) rfl kt) ?_
        show Ends p e below _ (T15.setTop (mkF m 102 #[.val (.int x0), .val (.int y0), .val (.int k0), .val (.int r0), .val (.long v0), .second, .val (.int m0), .val (.int i), .val (.int s0), .val (.int mm), .val (.int n), .val (.long a), .second, .val (.double (own_load a n)), .second, .unset, .unset, .unset, .unset, .unset, .unset, .unset, .unset, .unset, .unset, .unset, .unset, .unset, .unset, .unset] [(.double (own_load a n))]))
        refine Ends.pre (fun tt kt => X15.ldc2DoubleC hx hown (mvT hZ (hw _ (List.mem_of_getElem? (i := 34) rfl))) (g := (mkF m 102 #[.val (.int x0), .val (.int y0), .val (.int k0), .val (.int r0), .val (.long v0), .second, .val (.int m0), .val (.int i), .val (.int s0), .val (.int mm), .val (.int n), .val (.long a), .second, .val (.double (own_load a n)), .second, .unset, .unset, .unset, .unset, .unset, .unset, .unset, .unset, .unset, .unset, .unset, .unset, .unset, .unset, .unset] [(.double (own_load a n))])) rfl (hb hby at_102) _ kt) ?_
        show Ends p e below _ (T15.setTop (mkF m 105 #[.val (.int x0), .val (.int y0), .val (.int k0), .val (.int r0), .val (.long v0), .second, .val (.int m0), .val (.int i), .val (.int s0), .val (.int mm), .val (.int n), .val (.long a), .second, .val (.double (own_load a n)), .second, .unset, .unset, .unset, .unset, .unset, .unset, .unset, .unset, .unset, .unset, .unset, .unset, .unset, .unset, .unset] [(.double (13830554455654793216 : UInt64)), (.double (own_load a n))]))
        refine Ends.pre (fun tt kt => XS.dcmpS X15.here hx rfl (v := (0 : Int32)) (hb hby at_105) rfl (own_c0 hn0) kt) ?_
        show Ends p e below _ (T15.setTop (mkF m 106 #[.val (.int x0), .val (.int y0), .val (.int k0), .val (.int r0), .val (.long v0), .second, .val (.int m0), .val (.int i), .val (.int s0), .val (.int mm), .val (.int n), .val (.long a), .second, .val (.double (own_load a n)), .second, .unset, .unset, .unset, .unset, .unset, .unset, .unset, .unset, .unset, .unset, .unset, .unset, .unset, .unset, .unset] [(.int (0 : Int32))]))
        refine Ends.pre (fun tt kt => XS.ifNo X15.here hx rfl (hb hby at_106) rfl ((if0 _ _).trans (teq rfl).2) kt) ?_
        show Ends p e below _ (T15.setTop (mkF m 109 #[.val (.int x0), .val (.int y0), .val (.int k0), .val (.int r0), .val (.long v0), .second, .val (.int m0), .val (.int i), .val (.int s0), .val (.int mm), .val (.int n), .val (.long a), .second, .val (.double (own_load a n)), .second, .unset, .unset, .unset, .unset, .unset, .unset, .unset, .unset, .unset, .unset, .unset, .unset, .unset, .unset, .unset] []))
        refine Ends.pre (fun tt kt => XS.iconst X15.here hx rfl (hb hby at_109) kt) ?_
        show Ends p e below _ (T15.setTop (mkF m 110 #[.val (.int x0), .val (.int y0), .val (.int k0), .val (.int r0), .val (.long v0), .second, .val (.int m0), .val (.int i), .val (.int s0), .val (.int mm), .val (.int n), .val (.long a), .second, .val (.double (own_load a n)), .second, .unset, .unset, .unset, .unset, .unset, .unset, .unset, .unset, .unset, .unset, .unset, .unset, .unset, .unset, .unset] [(.int (1 : Int32))]))
        refine Ends.pre (fun tt kt => XS.goto X15.here hx rfl (pc0 := 110) (pc' := 114) rfl (hb hby at_110) (by decide) (by decide) kt) ?_
        show Ends p e below _ (T15.setTop (mkF m 114 #[.val (.int x0), .val (.int y0), .val (.int k0), .val (.int r0), .val (.long v0), .second, .val (.int m0), .val (.int i), .val (.int s0), .val (.int mm), .val (.int n), .val (.long a), .second, .val (.double (own_load a n)), .second, .unset, .unset, .unset, .unset, .unset, .unset, .unset, .unset, .unset, .unset, .unset, .unset, .unset, .unset, .unset] [(.int (1 : Int32))]))
        obtain ⟨fs, hr, hrun, hended, hW, hsame⟩ := X15.leave (v := some (.int (1 : Int32))) (fun h => by rw [Bd.returns] at h; cases h)
        refine ⟨_, _, retN X15 hx (t := .boolean) Bd.returns (by simp) (hb hby at_114) hr, hrun, hended, _, _, rfl, ?_, ⟨_, rfl⟩, hW, hsame.mono (by decide) (by decide)⟩
        show Q0 Z _ _ _ _ _ _ h0 n0 _ T15.heap _
        rw [e15]
        exact ⟨rfl, N15⟩
      ·
        refine Ends.pre (fun tt kt => XS.ifYes X15.here hx rfl (pc0 := 97) (pc' := 115) rfl (hb hby at_97) rfl ((if0 _ _).trans (feq hn0).2) (by decide) (by decide) kt) ?_
        show Ends p e below _ (T15.setTop (mkF m 115 #[.val (.int x0), .val (.int y0), .val (.int k0), .val (.int r0), .val (.long v0), .second, .val (.int m0), .val (.int i), .val (.int s0), .val (.int mm), .val (.int n), .val (.long a), .second, .val (.double (own_load a n)), .second, .unset, .unset, .unset, .unset, .unset, .unset, .unset, .unset, .unset, .unset, .unset, .unset, .unset, .unset, .unset] []))
        refine Ends.pre (fun tt kt => XS.dload X15.here hx rfl (hb hby at_115) rfl kt) ?_
        show Ends p e below _ (T15.setTop (mkF m 117 #[.val (.int x0), .val (.int y0), .val (.int k0), .val (.int r0), .val (.long v0), .second, .val (.int m0), .val (.int i), .val (.int s0), .val (.int mm), .val (.int n), .val (.long a), .second, .val (.double (own_load a n)), .second, .unset, .unset, .unset, .unset, .unset, .unset, .unset, .unset, .unset, .unset, .unset, .unset, .unset, .unset, .unset] [(.double (own_load a n))]))
        refine Ends.pre (fun tt kt => XS.lload X15.here hx rfl (hb hby at_117) rfl kt) ?_
        show Ends p e below _ (T15.setTop (mkF m 119 #[.val (.int x0), .val (.int y0), .val (.int k0), .val (.int r0), .val (.long v0), .second, .val (.int m0), .val (.int i), .val (.int s0), .val (.int mm), .val (.int n), .val (.long a), .second, .val (.double (own_load a n)), .second, .unset, .unset, .unset, .unset, .unset, .unset, .unset, .unset, .unset, .unset, .unset, .unset, .unset, .unset, .unset] [(.long a), (.double (own_load a n))]))
        refine Ends.pre (fun tt kt => XS.l2dS X15.here hx rfl (v := (FP.l2d a)) (hb hby at_119) rfl rfl kt) ?_
        show Ends p e below _ (T15.setTop (mkF m 120 #[.val (.int x0), .val (.int y0), .val (.int k0), .val (.int r0), .val (.long v0), .second, .val (.int m0), .val (.int i), .val (.int s0), .val (.int mm), .val (.int n), .val (.long a), .second, .val (.double (own_load a n)), .second, .unset, .unset, .unset, .unset, .unset, .unset, .unset, .unset, .unset, .unset, .unset, .unset, .unset, .unset, .unset] [(.double (FP.l2d a)), (.double (own_load a n))]))
        refine Ends.pre (fun tt kt => XS.dcmpS X15.here hx rfl (v := (0 : Int32)) (hb hby at_120) rfl (own_c1 hnN hgt hn0) kt) ?_
        show Ends p e below _ (T15.setTop (mkF m 121 #[.val (.int x0), .val (.int y0), .val (.int k0), .val (.int r0), .val (.long v0), .second, .val (.int m0), .val (.int i), .val (.int s0), .val (.int mm), .val (.int n), .val (.long a), .second, .val (.double (own_load a n)), .second, .unset, .unset, .unset, .unset, .unset, .unset, .unset, .unset, .unset, .unset, .unset, .unset, .unset, .unset, .unset] [(.int (0 : Int32))]))
        refine Ends.pre (fun tt kt => XS.ifNo X15.here hx rfl (hb hby at_121) rfl ((if0 _ _).trans (teq rfl).2) kt) ?_
        show Ends p e below _ (T15.setTop (mkF m 124 #[.val (.int x0), .val (.int y0), .val (.int k0), .val (.int r0), .val (.long v0), .second, .val (.int m0), .val (.int i), .val (.int s0), .val (.int mm), .val (.int n), .val (.long a), .second, .val (.double (own_load a n)), .second, .unset, .unset, .unset, .unset, .unset, .unset, .unset, .unset, .unset, .unset, .unset, .unset, .unset, .unset, .unset] []))
        refine Ends.pre (fun tt kt => XS.iconst X15.here hx rfl (hb hby at_124) kt) ?_
        show Ends p e below _ (T15.setTop (mkF m 125 #[.val (.int x0), .val (.int y0), .val (.int k0), .val (.int r0), .val (.long v0), .second, .val (.int m0), .val (.int i), .val (.int s0), .val (.int mm), .val (.int n), .val (.long a), .second, .val (.double (own_load a n)), .second, .unset, .unset, .unset, .unset, .unset, .unset, .unset, .unset, .unset, .unset, .unset, .unset, .unset, .unset, .unset] [(.int (1 : Int32))]))
        refine Ends.pre (fun tt kt => XS.goto X15.here hx rfl (pc0 := 125) (pc' := 129) rfl (hb hby at_125) (by decide) (by decide) kt) ?_
        show Ends p e below _ (T15.setTop (mkF m 129 #[.val (.int x0), .val (.int y0), .val (.int k0), .val (.int r0), .val (.long v0), .second, .val (.int m0), .val (.int i), .val (.int s0), .val (.int mm), .val (.int n), .val (.long a), .second, .val (.double (own_load a n)), .second, .unset, .unset, .unset, .unset, .unset, .unset, .unset, .unset, .unset, .unset, .unset, .unset, .unset, .unset, .unset] [(.int (1 : Int32))]))
        obtain ⟨fs, hr, hrun, hended, hW, hsame⟩ := X15.leave (v := some (.int (1 : Int32))) (fun h => by rw [Bd.returns] at h; cases h)
        refine ⟨_, _, retN X15 hx (t := .boolean) Bd.returns (by simp) (hb hby at_129) hr, hrun, hended, _, _, rfl, ?_, ⟨_, rfl⟩, hW, hsame.mono (by decide) (by decide)⟩
        show Q0 Z _ _ _ _ _ _ h0 n0 _ T15.heap _
        rw [e15]
        exact ⟨rfl, N15⟩
  show Ends p e below _ (s₁.setTop (mkF m 0 #[.val (.int x0), .val (.int y0), .val (.int k0), .val (.int r0), .val (.long v0), .second, .val (.int m0), .unset, .unset, .unset, .unset, .unset, .unset, .unset, .unset, .unset, .unset, .unset, .unset, .unset, .unset, .unset, .unset, .unset, .unset, .unset, .unset, .unset, .unset, .unset] []))
  refine Ends.pre (fun tt kt => XS.iloadN X0.here hx rfl (hb hby at_0) rfl kt) ?_
  show Ends p e below _ (s₁.setTop (mkF m 1 #[.val (.int x0), .val (.int y0), .val (.int k0), .val (.int r0), .val (.long v0), .second, .val (.int m0), .unset, .unset, .unset, .unset, .unset, .unset, .unset, .unset, .unset, .unset, .unset, .unset, .unset, .unset, .unset, .unset, .unset, .unset, .unset, .unset, .unset, .unset, .unset] [(.int x0)]))
  refine Ends.pre (fun tt kt => X0.ldcInt hx hown (mvT hZ (hw _ (List.mem_of_getElem? (i := 0) rfl))) (g := (mkF m 1 #[.val (.int x0), .val (.int y0), .val (.int k0), .val (.int r0), .val (.long v0), .second, .val (.int m0), .unset, .unset, .unset, .unset, .unset, .unset, .unset, .unset, .unset, .unset, .unset, .unset, .unset, .unset, .unset, .unset, .unset, .unset, .unset, .unset, .unset, .unset, .unset] [(.int x0)])) rfl (hb hby at_1) _ kt) ?_
  show Ends p e below _ (s₁.setTop (mkF m 3 #[.val (.int x0), .val (.int y0), .val (.int k0), .val (.int r0), .val (.long v0), .second, .val (.int m0), .unset, .unset, .unset, .unset, .unset, .unset, .unset, .unset, .unset, .unset, .unset, .unset, .unset, .unset, .unset, .unset, .unset, .unset, .unset, .unset, .unset, .unset, .unset] [(.int (2147483647 : Int32)), (.int x0)]))
  refine Ends.pre (fun tt kt => XS.iand X0.here hx rfl (hb hby at_3) rfl kt) ?_
  show Ends p e below _ (s₁.setTop (mkF m 4 #[.val (.int x0), .val (.int y0), .val (.int k0), .val (.int r0), .val (.long v0), .second, .val (.int m0), .unset, .unset, .unset, .unset, .unset, .unset, .unset, .unset, .unset, .unset, .unset, .unset, .unset, .unset, .unset, .unset, .unset, .unset, .unset, .unset, .unset, .unset, .unset] [(.int (x0 &&& (2147483647 : Int32)))]))
  obtain ⟨i, hi⟩ : ∃ z, z = (x0 &&& (2147483647 : Int32)) := ⟨_, rfl⟩
  rw [← hi]
  show Ends p e below _ (s₁.setTop (mkF m 4 #[.val (.int x0), .val (.int y0), .val (.int k0), .val (.int r0), .val (.long v0), .second, .val (.int m0), .unset, .unset, .unset, .unset, .unset, .unset, .unset, .unset, .unset, .unset, .unset, .unset, .unset, .unset, .unset, .unset, .unset, .unset, .unset, .unset, .unset, .unset, .unset] [(.int i)]))
  obtain ⟨I, hI⟩ := own_i hi
  refine Ends.pre (fun tt kt => XS.istore X0.here hx rfl (hb hby at_4) rfl (l' := #[.val (.int x0), .val (.int y0), .val (.int k0), .val (.int r0), .val (.long v0), .second, .val (.int m0), .val (.int i), .unset, .unset, .unset, .unset, .unset, .unset, .unset, .unset, .unset, .unset, .unset, .unset, .unset, .unset, .unset, .unset, .unset, .unset, .unset, .unset, .unset, .unset]) rfl kt) ?_
  show Ends p e below _ (s₁.setTop (mkF m 6 #[.val (.int x0), .val (.int y0), .val (.int k0), .val (.int r0), .val (.long v0), .second, .val (.int m0), .val (.int i), .unset, .unset, .unset, .unset, .unset, .unset, .unset, .unset, .unset, .unset, .unset, .unset, .unset, .unset, .unset, .unset, .unset, .unset, .unset, .unset, .unset, .unset] []))
  refine Ends.pre (fun tt kt => XS.iloadN X0.here hx rfl (hb hby at_6) rfl kt) ?_
  show Ends p e below _ (s₁.setTop (mkF m 7 #[.val (.int x0), .val (.int y0), .val (.int k0), .val (.int r0), .val (.long v0), .second, .val (.int m0), .val (.int i), .unset, .unset, .unset, .unset, .unset, .unset, .unset, .unset, .unset, .unset, .unset, .unset, .unset, .unset, .unset, .unset, .unset, .unset, .unset, .unset, .unset, .unset] [(.int y0)]))
  refine Ends.pre (fun tt kt => XS.i2l X0.here hx rfl (hb hby at_7) rfl kt) ?_
  show Ends p e below _ (s₁.setTop (mkF m 8 #[.val (.int x0), .val (.int y0), .val (.int k0), .val (.int r0), .val (.long v0), .second, .val (.int m0), .val (.int i), .unset, .unset, .unset, .unset, .unset, .unset, .unset, .unset, .unset, .unset, .unset, .unset, .unset, .unset, .unset, .unset, .unset, .unset, .unset, .unset, .unset, .unset] [(.long (y0.toInt64))]))
  refine Ends.pre (fun tt kt => X0.ldc2Long hx hown (mvT hZ (hw _ (List.mem_of_getElem? (i := 1) rfl))) (g := (mkF m 8 #[.val (.int x0), .val (.int y0), .val (.int k0), .val (.int r0), .val (.long v0), .second, .val (.int m0), .val (.int i), .unset, .unset, .unset, .unset, .unset, .unset, .unset, .unset, .unset, .unset, .unset, .unset, .unset, .unset, .unset, .unset, .unset, .unset, .unset, .unset, .unset, .unset] [(.long (y0.toInt64))])) rfl (hb hby at_8) _ kt) ?_
  show Ends p e below _ (s₁.setTop (mkF m 11 #[.val (.int x0), .val (.int y0), .val (.int k0), .val (.int r0), .val (.long v0), .second, .val (.int m0), .val (.int i), .unset, .unset, .unset, .unset, .unset, .unset, .unset, .unset, .unset, .unset, .unset, .unset, .unset, .unset, .unset, .unset, .unset, .unset, .unset, .unset, .unset, .unset] [(.long (2147483647 : Int64)), (.long (y0.toInt64))]))
  refine Ends.pre (fun tt kt => XS.land X0.here hx rfl (hb hby at_11) rfl kt) ?_
  show Ends p e below _ (s₁.setTop (mkF m 12 #[.val (.int x0), .val (.int y0), .val (.int k0), .val (.int r0), .val (.long v0), .second, .val (.int m0), .val (.int i), .unset, .unset, .unset, .unset, .unset, .unset, .unset, .unset, .unset, .unset, .unset, .unset, .unset, .unset, .unset, .unset, .unset, .unset, .unset, .unset, .unset, .unset] [(.long ((y0.toInt64) &&& (2147483647 : Int64)))]))
  refine Ends.pre (fun tt kt => XS.iload X0.here hx rfl (hb hby at_12) rfl kt) ?_
  show Ends p e below _ (s₁.setTop (mkF m 14 #[.val (.int x0), .val (.int y0), .val (.int k0), .val (.int r0), .val (.long v0), .second, .val (.int m0), .val (.int i), .unset, .unset, .unset, .unset, .unset, .unset, .unset, .unset, .unset, .unset, .unset, .unset, .unset, .unset, .unset, .unset, .unset, .unset, .unset, .unset, .unset, .unset] [(.int i), (.long ((y0.toInt64) &&& (2147483647 : Int64)))]))
  refine Ends.pre (fun tt kt => XS.i2l X0.here hx rfl (hb hby at_14) rfl kt) ?_
  show Ends p e below _ (s₁.setTop (mkF m 15 #[.val (.int x0), .val (.int y0), .val (.int k0), .val (.int r0), .val (.long v0), .second, .val (.int m0), .val (.int i), .unset, .unset, .unset, .unset, .unset, .unset, .unset, .unset, .unset, .unset, .unset, .unset, .unset, .unset, .unset, .unset, .unset, .unset, .unset, .unset, .unset, .unset] [(.long (i.toInt64)), (.long ((y0.toInt64) &&& (2147483647 : Int64)))]))
  refine Ends.pre (fun tt kt => XS.lconst X0.here hx rfl (hb hby at_15) kt) ?_
  show Ends p e below _ (s₁.setTop (mkF m 16 #[.val (.int x0), .val (.int y0), .val (.int k0), .val (.int r0), .val (.long v0), .second, .val (.int m0), .val (.int i), .unset, .unset, .unset, .unset, .unset, .unset, .unset, .unset, .unset, .unset, .unset, .unset, .unset, .unset, .unset, .unset, .unset, .unset, .unset, .unset, .unset, .unset] [(.long (1 : Int64)), (.long (i.toInt64)), (.long ((y0.toInt64) &&& (2147483647 : Int64)))]))
  refine Ends.pre (fun tt kt => XS.ladd X0.here hx rfl (hb hby at_16) rfl kt) ?_
  show Ends p e below _ (s₁.setTop (mkF m 17 #[.val (.int x0), .val (.int y0), .val (.int k0), .val (.int r0), .val (.long v0), .second, .val (.int m0), .val (.int i), .unset, .unset, .unset, .unset, .unset, .unset, .unset, .unset, .unset, .unset, .unset, .unset, .unset, .unset, .unset, .unset, .unset, .unset, .unset, .unset, .unset, .unset] [(.long ((i.toInt64) + (1 : Int64))), (.long ((y0.toInt64) &&& (2147483647 : Int64)))]))
  refine Ends.pre (fun tt kt => XS.lrem X0.here hx rfl (hb hby at_17) rfl (own_inz hI) kt) ?_
  show Ends p e below _ (s₁.setTop (mkF m 18 #[.val (.int x0), .val (.int y0), .val (.int k0), .val (.int r0), .val (.long v0), .second, .val (.int m0), .val (.int i), .unset, .unset, .unset, .unset, .unset, .unset, .unset, .unset, .unset, .unset, .unset, .unset, .unset, .unset, .unset, .unset, .unset, .unset, .unset, .unset, .unset, .unset] [(.long (((y0.toInt64) &&& (2147483647 : Int64)) - ((y0.toInt64) &&& (2147483647 : Int64)) / ((i.toInt64) + (1 : Int64)) * ((i.toInt64) + (1 : Int64))))]))
  refine Ends.pre (fun tt kt => XS.l2i X0.here hx rfl (hb hby at_18) rfl kt) ?_
  show Ends p e below _ (s₁.setTop (mkF m 19 #[.val (.int x0), .val (.int y0), .val (.int k0), .val (.int r0), .val (.long v0), .second, .val (.int m0), .val (.int i), .unset, .unset, .unset, .unset, .unset, .unset, .unset, .unset, .unset, .unset, .unset, .unset, .unset, .unset, .unset, .unset, .unset, .unset, .unset, .unset, .unset, .unset] [(.int ((((y0.toInt64) &&& (2147483647 : Int64)) - ((y0.toInt64) &&& (2147483647 : Int64)) / ((i.toInt64) + (1 : Int64)) * ((i.toInt64) + (1 : Int64))).toInt32))]))
  obtain ⟨s0, hs⟩ : ∃ z, z = ((((y0.toInt64) &&& (2147483647 : Int64)) - ((y0.toInt64) &&& (2147483647 : Int64)) / ((i.toInt64) + (1 : Int64)) * ((i.toInt64) + (1 : Int64))).toInt32) := ⟨_, rfl⟩
  rw [← hs]
  show Ends p e below _ (s₁.setTop (mkF m 19 #[.val (.int x0), .val (.int y0), .val (.int k0), .val (.int r0), .val (.long v0), .second, .val (.int m0), .val (.int i), .unset, .unset, .unset, .unset, .unset, .unset, .unset, .unset, .unset, .unset, .unset, .unset, .unset, .unset, .unset, .unset, .unset, .unset, .unset, .unset, .unset, .unset] [(.int s0)]))
  obtain ⟨S, hS, hSI⟩ := own_s hI hs
  refine Ends.pre (fun tt kt => XS.istore X0.here hx rfl (hb hby at_19) rfl (l' := #[.val (.int x0), .val (.int y0), .val (.int k0), .val (.int r0), .val (.long v0), .second, .val (.int m0), .val (.int i), .val (.int s0), .unset, .unset, .unset, .unset, .unset, .unset, .unset, .unset, .unset, .unset, .unset, .unset, .unset, .unset, .unset, .unset, .unset, .unset, .unset, .unset, .unset]) rfl kt) ?_
  show Ends p e below _ (s₁.setTop (mkF m 21 #[.val (.int x0), .val (.int y0), .val (.int k0), .val (.int r0), .val (.long v0), .second, .val (.int m0), .val (.int i), .val (.int s0), .unset, .unset, .unset, .unset, .unset, .unset, .unset, .unset, .unset, .unset, .unset, .unset, .unset, .unset, .unset, .unset, .unset, .unset, .unset, .unset, .unset] []))
  refine Ends.pre (fun tt kt => XS.iload X0.here hx rfl (hb hby at_21) rfl kt) ?_
  show Ends p e below _ (s₁.setTop (mkF m 23 #[.val (.int x0), .val (.int y0), .val (.int k0), .val (.int r0), .val (.long v0), .second, .val (.int m0), .val (.int i), .val (.int s0), .unset, .unset, .unset, .unset, .unset, .unset, .unset, .unset, .unset, .unset, .unset, .unset, .unset, .unset, .unset, .unset, .unset, .unset, .unset, .unset, .unset] [(.int m0)]))
  refine Ends.pre (fun tt kt => XS.iconst X0.here hx rfl (hb hby at_23) kt) ?_
  show Ends p e below _ (s₁.setTop (mkF m 24 #[.val (.int x0), .val (.int y0), .val (.int k0), .val (.int r0), .val (.long v0), .second, .val (.int m0), .val (.int i), .val (.int s0), .unset, .unset, .unset, .unset, .unset, .unset, .unset, .unset, .unset, .unset, .unset, .unset, .unset, .unset, .unset, .unset, .unset, .unset, .unset, .unset, .unset] [(.int (3 : Int32)), (.int m0)]))
  refine Ends.pre (fun tt kt => XS.iand X0.here hx rfl (hb hby at_24) rfl kt) ?_
  show Ends p e below _ (s₁.setTop (mkF m 25 #[.val (.int x0), .val (.int y0), .val (.int k0), .val (.int r0), .val (.long v0), .second, .val (.int m0), .val (.int i), .val (.int s0), .unset, .unset, .unset, .unset, .unset, .unset, .unset, .unset, .unset, .unset, .unset, .unset, .unset, .unset, .unset, .unset, .unset, .unset, .unset, .unset, .unset] [(.int (m0 &&& (3 : Int32)))]))
  refine Ends.pre (fun tt kt => XS.istore X0.here hx rfl (hb hby at_25) rfl (l' := #[.val (.int x0), .val (.int y0), .val (.int k0), .val (.int r0), .val (.long v0), .second, .val (.int m0), .val (.int i), .val (.int s0), .val (.int (m0 &&& (3 : Int32))), .unset, .unset, .unset, .unset, .unset, .unset, .unset, .unset, .unset, .unset, .unset, .unset, .unset, .unset, .unset, .unset, .unset, .unset, .unset, .unset]) rfl kt) ?_
  show Ends p e below _ (s₁.setTop (mkF m 27 #[.val (.int x0), .val (.int y0), .val (.int k0), .val (.int r0), .val (.long v0), .second, .val (.int m0), .val (.int i), .val (.int s0), .val (.int (m0 &&& (3 : Int32))), .unset, .unset, .unset, .unset, .unset, .unset, .unset, .unset, .unset, .unset, .unset, .unset, .unset, .unset, .unset, .unset, .unset, .unset, .unset, .unset] []))
  obtain ⟨mm, hm⟩ : ∃ z, z = (m0 &&& (3 : Int32)) := ⟨_, rfl⟩
  rw [← hm]
  show Ends p e below _ (s₁.setTop (mkF m 27 #[.val (.int x0), .val (.int y0), .val (.int k0), .val (.int r0), .val (.long v0), .second, .val (.int m0), .val (.int i), .val (.int s0), .val (.int mm), .unset, .unset, .unset, .unset, .unset, .unset, .unset, .unset, .unset, .unset, .unset, .unset, .unset, .unset, .unset, .unset, .unset, .unset, .unset, .unset] []))
  refine Ends.pre (fun tt kt => XS.iload X0.here hx rfl (hb hby at_27) rfl kt) ?_
  show Ends p e below _ (s₁.setTop (mkF m 29 #[.val (.int x0), .val (.int y0), .val (.int k0), .val (.int r0), .val (.long v0), .second, .val (.int m0), .val (.int i), .val (.int s0), .val (.int mm), .unset, .unset, .unset, .unset, .unset, .unset, .unset, .unset, .unset, .unset, .unset, .unset, .unset, .unset, .unset, .unset, .unset, .unset, .unset, .unset] [(.int mm)]))
  by_cases c0 : mm = (0 : Int32)
  ·
    refine Ends.pre (fun tt kt => XS.ifNo X0.here hx rfl (hb hby at_29) rfl ((if0 _ _).trans (teq c0).2) kt) ?_
    show Ends p e below _ (s₁.setTop (mkF m 32 #[.val (.int x0), .val (.int y0), .val (.int k0), .val (.int r0), .val (.long v0), .second, .val (.int m0), .val (.int i), .val (.int s0), .val (.int mm), .unset, .unset, .unset, .unset, .unset, .unset, .unset, .unset, .unset, .unset, .unset, .unset, .unset, .unset, .unset, .unset, .unset, .unset, .unset, .unset] []))
    refine Ends.pre (fun tt kt => XS.iload X0.here hx rfl (hb hby at_32) rfl kt) ?_
    show Ends p e below _ (s₁.setTop (mkF m 34 #[.val (.int x0), .val (.int y0), .val (.int k0), .val (.int r0), .val (.long v0), .second, .val (.int m0), .val (.int i), .val (.int s0), .val (.int mm), .unset, .unset, .unset, .unset, .unset, .unset, .unset, .unset, .unset, .unset, .unset, .unset, .unset, .unset, .unset, .unset, .unset, .unset, .unset, .unset] [(.int i)]))
    refine Ends.pre (fun tt kt => XS.istore X0.here hx rfl (hb hby at_34) rfl (l' := #[.val (.int x0), .val (.int y0), .val (.int k0), .val (.int r0), .val (.long v0), .second, .val (.int m0), .val (.int i), .val (.int i), .val (.int mm), .unset, .unset, .unset, .unset, .unset, .unset, .unset, .unset, .unset, .unset, .unset, .unset, .unset, .unset, .unset, .unset, .unset, .unset, .unset, .unset]) rfl kt) ?_
    show Ends p e below _ (s₁.setTop (mkF m 36 #[.val (.int x0), .val (.int y0), .val (.int k0), .val (.int r0), .val (.long v0), .second, .val (.int m0), .val (.int i), .val (.int i), .val (.int mm), .unset, .unset, .unset, .unset, .unset, .unset, .unset, .unset, .unset, .unset, .unset, .unset, .unset, .unset, .unset, .unset, .unset, .unset, .unset, .unset] []))
    refine Ends.pre (fun tt kt => XS.goto X0.here hx rfl (pc0 := 36) (pc' := 56) rfl (hb hby at_36) (by decide) (by decide) kt) ?_
    show Ends p e below _ (s₁.setTop (mkF m 56 #[.val (.int x0), .val (.int y0), .val (.int k0), .val (.int r0), .val (.long v0), .second, .val (.int m0), .val (.int i), .val (.int i), .val (.int mm), .unset, .unset, .unset, .unset, .unset, .unset, .unset, .unset, .unset, .unset, .unset, .unset, .unset, .unset, .unset, .unset, .unset, .unset, .unset, .unset] []))
    exact J56 _ _ _ _ _ hI hI (Nat.le_refl _)
  ·
    refine Ends.pre (fun tt kt => XS.ifYes X0.here hx rfl (pc0 := 29) (pc' := 39) rfl (hb hby at_29) rfl ((if0 _ _).trans (feq c0).2) (by decide) (by decide) kt) ?_
    show Ends p e below _ (s₁.setTop (mkF m 39 #[.val (.int x0), .val (.int y0), .val (.int k0), .val (.int r0), .val (.long v0), .second, .val (.int m0), .val (.int i), .val (.int s0), .val (.int mm), .unset, .unset, .unset, .unset, .unset, .unset, .unset, .unset, .unset, .unset, .unset, .unset, .unset, .unset, .unset, .unset, .unset, .unset, .unset, .unset] []))
    refine Ends.pre (fun tt kt => XS.iload X0.here hx rfl (hb hby at_39) rfl kt) ?_
    show Ends p e below _ (s₁.setTop (mkF m 41 #[.val (.int x0), .val (.int y0), .val (.int k0), .val (.int r0), .val (.long v0), .second, .val (.int m0), .val (.int i), .val (.int s0), .val (.int mm), .unset, .unset, .unset, .unset, .unset, .unset, .unset, .unset, .unset, .unset, .unset, .unset, .unset, .unset, .unset, .unset, .unset, .unset, .unset, .unset] [(.int mm)]))
    refine Ends.pre (fun tt kt => XS.iconst X0.here hx rfl (hb hby at_41) kt) ?_
    show Ends p e below _ (s₁.setTop (mkF m 42 #[.val (.int x0), .val (.int y0), .val (.int k0), .val (.int r0), .val (.long v0), .second, .val (.int m0), .val (.int i), .val (.int s0), .val (.int mm), .unset, .unset, .unset, .unset, .unset, .unset, .unset, .unset, .unset, .unset, .unset, .unset, .unset, .unset, .unset, .unset, .unset, .unset, .unset, .unset] [(.int (1 : Int32)), (.int mm)]))
    by_cases c1 : mm = (1 : Int32)
    ·
      refine Ends.pre (fun tt kt => XS.icmpNo X0.here hx rfl (hb hby at_42) rfl (teq c1).2 kt) ?_
      show Ends p e below _ (s₁.setTop (mkF m 45 #[.val (.int x0), .val (.int y0), .val (.int k0), .val (.int r0), .val (.long v0), .second, .val (.int m0), .val (.int i), .val (.int s0), .val (.int mm), .unset, .unset, .unset, .unset, .unset, .unset, .unset, .unset, .unset, .unset, .unset, .unset, .unset, .unset, .unset, .unset, .unset, .unset, .unset, .unset] []))
      refine Ends.pre (fun tt kt => XS.iload X0.here hx rfl (hb hby at_45) rfl kt) ?_
      show Ends p e below _ (s₁.setTop (mkF m 47 #[.val (.int x0), .val (.int y0), .val (.int k0), .val (.int r0), .val (.long v0), .second, .val (.int m0), .val (.int i), .val (.int s0), .val (.int mm), .unset, .unset, .unset, .unset, .unset, .unset, .unset, .unset, .unset, .unset, .unset, .unset, .unset, .unset, .unset, .unset, .unset, .unset, .unset, .unset] [(.int i)]))
      by_cases c2 : (0 : Int32) < i
      ·
        refine Ends.pre (fun tt kt => XS.ifNo X0.here hx rfl (hb hby at_47) rfl ((if0 _ _).trans (tlt c2).2.2.2) kt) ?_
        show Ends p e below _ (s₁.setTop (mkF m 50 #[.val (.int x0), .val (.int y0), .val (.int k0), .val (.int r0), .val (.long v0), .second, .val (.int m0), .val (.int i), .val (.int s0), .val (.int mm), .unset, .unset, .unset, .unset, .unset, .unset, .unset, .unset, .unset, .unset, .unset, .unset, .unset, .unset, .unset, .unset, .unset, .unset, .unset, .unset] []))
        refine Ends.pre (fun tt kt => XS.iload X0.here hx rfl (hb hby at_50) rfl kt) ?_
        show Ends p e below _ (s₁.setTop (mkF m 52 #[.val (.int x0), .val (.int y0), .val (.int k0), .val (.int r0), .val (.long v0), .second, .val (.int m0), .val (.int i), .val (.int s0), .val (.int mm), .unset, .unset, .unset, .unset, .unset, .unset, .unset, .unset, .unset, .unset, .unset, .unset, .unset, .unset, .unset, .unset, .unset, .unset, .unset, .unset] [(.int i)]))
        refine Ends.pre (fun tt kt => XS.iconst X0.here hx rfl (hb hby at_52) kt) ?_
        show Ends p e below _ (s₁.setTop (mkF m 53 #[.val (.int x0), .val (.int y0), .val (.int k0), .val (.int r0), .val (.long v0), .second, .val (.int m0), .val (.int i), .val (.int s0), .val (.int mm), .unset, .unset, .unset, .unset, .unset, .unset, .unset, .unset, .unset, .unset, .unset, .unset, .unset, .unset, .unset, .unset, .unset, .unset, .unset, .unset] [(.int (1 : Int32)), (.int i)]))
        refine Ends.pre (fun tt kt => XS.isub X0.here hx rfl (hb hby at_53) rfl kt) ?_
        show Ends p e below _ (s₁.setTop (mkF m 54 #[.val (.int x0), .val (.int y0), .val (.int k0), .val (.int r0), .val (.long v0), .second, .val (.int m0), .val (.int i), .val (.int s0), .val (.int mm), .unset, .unset, .unset, .unset, .unset, .unset, .unset, .unset, .unset, .unset, .unset, .unset, .unset, .unset, .unset, .unset, .unset, .unset, .unset, .unset] [(.int (i - (1 : Int32)))]))
        refine Ends.pre (fun tt kt => XS.istore X0.here hx rfl (hb hby at_54) rfl (l' := #[.val (.int x0), .val (.int y0), .val (.int k0), .val (.int r0), .val (.long v0), .second, .val (.int m0), .val (.int i), .val (.int (i - (1 : Int32))), .val (.int mm), .unset, .unset, .unset, .unset, .unset, .unset, .unset, .unset, .unset, .unset, .unset, .unset, .unset, .unset, .unset, .unset, .unset, .unset, .unset, .unset]) rfl kt) ?_
        show Ends p e below _ (s₁.setTop (mkF m 56 #[.val (.int x0), .val (.int y0), .val (.int k0), .val (.int r0), .val (.long v0), .second, .val (.int m0), .val (.int i), .val (.int (i - (1 : Int32))), .val (.int mm), .unset, .unset, .unset, .unset, .unset, .unset, .unset, .unset, .unset, .unset, .unset, .unset, .unset, .unset, .unset, .unset, .unset, .unset, .unset, .unset] []))
        obtain ⟨S', hS', hle'⟩ := own_im hI c2
        exact J56 _ _ _ _ _ hI hS' hle'
      ·
        refine Ends.pre (fun tt kt => XS.ifYes X0.here hx rfl (pc0 := 47) (pc' := 56) rfl (hb hby at_47) rfl ((if0 _ _).trans (flt c2).2.2.2) (by decide) (by decide) kt) ?_
        show Ends p e below _ (s₁.setTop (mkF m 56 #[.val (.int x0), .val (.int y0), .val (.int k0), .val (.int r0), .val (.long v0), .second, .val (.int m0), .val (.int i), .val (.int s0), .val (.int mm), .unset, .unset, .unset, .unset, .unset, .unset, .unset, .unset, .unset, .unset, .unset, .unset, .unset, .unset, .unset, .unset, .unset, .unset, .unset, .unset] []))
        exact J56 _ _ _ _ _ hI hS hSI
    ·
      refine Ends.pre (fun tt kt => XS.icmpYes X0.here hx rfl (pc0 := 42) (pc' := 56) rfl (hb hby at_42) rfl (feq c1).2 (by decide) (by decide) kt) ?_
      show Ends p e below _ (s₁.setTop (mkF m 56 #[.val (.int x0), .val (.int y0), .val (.int k0), .val (.int r0), .val (.long v0), .second, .val (.int m0), .val (.int i), .val (.int s0), .val (.int mm), .unset, .unset, .unset, .unset, .unset, .unset, .unset, .unset, .unset, .unset, .unset, .unset, .unset, .unset, .unset, .unset, .unset, .unset, .unset, .unset] []))
      exact J56 _ _ _ _ _ hI hS hSI
set_option maxRecDepth 65536 in
set_option maxHeartbeats 40000000 in
theorem comes_1 {Post : Tables → Env → Array Value → State → Outcome → State → Prop} (hpost : ∀ tb e args s v u, (limb_1_1.after args s (.returned v) u = true ∧ limb_1_2.after args s (.returned v) u = true ∧ True) → FrameEnd s (.returned v) u (Jvm.fieldLocs frame_1_writes args s ++ Jvm.arrayLocs frame_1_arrays args s ++ Jvm.staticLocs frame_1_statics s) 16 128 → Post tb e args s (.returned v) u) :
    ArmFor flags0 classFile x code maxLocals ret World_1 tables_1 room_1 Calls_1 rest_1 Pre_1 Post := by
  intro l hfl _ _ p e ha hc hk s m args below hf hA hF happ hP
  obtain ⟨hcalls, hrest, hpre⟩ := hP
  obtain ⟨-, -, -, hnamed, -, -, -, hat⟩ := (Spec.applies_iff hf).mp happ
  obtain ⟨hg, hn⟩ := and_e (Cond.before_iff.mp (show (Jvm.Cond.and given_1 narrow_1).before args s = true from hpre))
  obtain ⟨gc, gg⟩ := and_e hg
  obtain ⟨ga0, gb0⟩ := and_e gg
  obtain ⟨ga1, gb1⟩ := and_e gb0
  obtain ⟨ga2, gb2⟩ := and_e gb1
  obtain ⟨ga3, gb3⟩ := and_e gb2
  obtain ⟨ga4, gb4⟩ := and_e gb3
  obtain ⟨w0, w1, w2, w3, w4, w5, rfl⟩ : ∃ w0 w1 w2 w3 w4 w5 : Value, args = #[w0, w1, w2, w3, w4, w5] := by
    have hs : args.size = 6 := by simpa [Cond.value, given_1] using gc
    obtain ⟨L⟩ := args
    match L, hs with
    | [w0, w1, w2, w3, w4, w5], _ => exact ⟨w0, w1, w2, w3, w4, w5, rfl⟩
  have hw := fun d (hd : d ∈ tables_1) => atoms_spec (ws := Jvm.Cond.code x code maxLocals ret :: tables_1) hat d (List.mem_cons_of_mem _ hd)
  obtain ⟨i0, ei0⟩ := is_v ga0
  obtain rfl : w0 = (.int i0) := Option.some.inj ei0
  obtain ⟨i1, ei1⟩ := is_v ga1
  obtain rfl : w1 = (.int i1) := Option.some.inj ei1
  obtain ⟨i2, ei2⟩ := is_v ga2
  obtain rfl : w2 = (.int i2) := Option.some.inj ei2
  obtain ⟨i3, ei3⟩ := is_v ga3
  obtain rfl : w3 = (.int i3) := Option.some.inj ei3
  obtain ⟨i4, ei4⟩ := isL_v ga4
  obtain rfl : w4 = (.long i4) := Option.some.inj ei4
  obtain ⟨i5, ei5⟩ := is_v gb4
  obtain rfl : w5 = (.int i5) := Option.some.inj ei5
  obtain ⟨n, o, h1, h2, h3, _, L, rfl, ⟨rfl, N⟩, hq⟩ := rm0 l s _ hw tables_1 i0 i1 i2 i3 i4 i5 s.heap s.heap.size (Nat.le_refl _)  p e ha hc hk s m _ below hf ((Spec.applies_iff_loose hf).mp happ).1 ⟨rfl, State.Warmed39.refl s, rfl⟩ trivial
  refine ⟨n, _, h1, h2, h3, hpost _ _ _ _ _ _ ⟨Cond.after_iff.mpr rfl, Cond.after_iff.mpr (eq_i res_at (Term.int_eval (1)) rfl), trivial⟩ ⟨hq.1, hq.2.1, (hq.2.2.sift fun y hy => Or.inr (N y hy)).mono (by decide) (by decide)⟩⟩
theorem main_1_1 : Claimed_1_1 := comes_1 fun _ _ _ _ _ _ h hF => ⟨h.1, hF⟩
theorem main_1_2 : Claimed_1_2 := comes_1 fun _ _ _ _ _ _ h hF => ⟨h.2.1, hF⟩
end Jvm.Pilot.@@N@@
namespace Jvm.Pilot.@@N@@
open Jvm Jvm.ClassFile Sem Op Lib Jvm.Free Jvm.Stand Jvm.Pilot.@@N@@.Jvm.D
/-! MADE BY PROGRAM (witnessworld.py) out of the Statement's table words and the real class files: 10 classes; the members and pool entries that the words name. The judged class is class 1, her method 1. -/
namespace start1
open Jvm.ClassFile
def u (s : String) : CpInfo := .utf8 (stringToUtf16 s)
/-- a pool by its gaps: so many unusable entries, then the entry; so many at the end -/
def gap : Nat → List CpInfo → List CpInfo
  | 0, r => r
  | n + 1, r => .unusable :: gap n r
def poolList (es : List (Nat × CpInfo)) (last : Nat) : List CpInfo := es.foldr (fun e r => gap e.1 (e.2 :: r)) (gap last [])
def pool (es : List (Nat × CpInfo)) (last : Nat) : Array CpInfo := ⟨poolList es last⟩
def fileOf (pool : Array CpInfo) (this : Nat) (attrs : Array Attribute := #[]) (ms : Array MethodInfo := #[]) (fl : Nat := 33) (sup : Nat := 0) (ifs : Array Nat := #[]) (fds : Array FieldInfo := #[]) : ClassFile where
  minorVersion := 0
  majorVersion := 65
  constantPool := pool
  accessFlags := fl
  thisClass := this
  superClass := sup
  interfaces := ifs
  fields := fds
  methods := ms
  attributes := attrs
def plain (name : String) (sup : Option ClassId) : Class where
  name := name
  kind := .ordinary
  loader := none
  accessFlags := 33
  super := sup
  interfaces := #[]
  cf := none
  fields := #[]
  methods := #[]
  instanceTypes := #[]
  staticTypes := #[]
  resolved := #[]
  callSites := []
  init := .initialized
  statics := none
  mirror := none

def pool0 : Array CpInfo := pool [(5, u "<init>"), (0, u "()V"), (1, .class_ 10), (1, u "java/lang/Object")] 113

def k0c0 : Code := { maxStack := 0, maxLocals := 1, code := object_method_1_code, exceptionTable := #[], attributes := #[] }
def k0m0 : Method := { name := "<init>", desc := "()V", sig := { parameters := [], returnType := none }, accessFlags := 1, code := some k0c0 }
/-- java/lang/Object -/
def k0 : Class := { plain "java/lang/Object" none with
  accessFlags := 33
  interfaces := #[]
  cf := some (fileOf pool0 8 #[] #[{ accessFlags := 1, nameIndex := 5, descriptorIndex := 6, attributes := #[] }] 33 0 #[] #[])
  fields := #[]
  methods := #[k0m0]
  instanceTypes := #[]
  staticTypes := #[]
  resolved := Array.replicate 124 none
  statics := none }

def pool1 : Array CpInfo := pool [(2, .class_ 4), (1, u "java/lang/Object"), (0, u "<init>"), (0, u "()V"), (0, .integer 2147483647), (0, .long 2147483647), (3, .long 9223372036854775807), (1, .class_ 15), (0, u "com/example/selvage/selvage/ZoneStats"), (0, .methodref 14 17), (0, .nameAndType 5 18), (0, u "(IIJ)V"), (0, .methodref 14 20), (0, .nameAndType 21 22), (0, u "loadPerServer"), (0, u "()D"), (0, .double 13830554455654793216), (1, .long 1048575), (1, .double 4611686018427387904), (1, .long 2), (1, .class_ 32), (0, u "com/example/selvage/selvage/ZoneStatsLoadPerServerPinLaw"), (2, u "law"), (0, u "(IIIIJI)Z")] 3

def k1m0 : Method := { name := "<init>", desc := "()V", sig := { parameters := [], returnType := none }, accessFlags := 1, code := none }
def k1c1 : Code := { maxStack := 6, maxLocals := 30, code := code, exceptionTable := #[], attributes := #[] }
def k1m1 : Method := { name := "law", desc := "(IIIIJI)Z", sig := { parameters := [.int, .int, .int, .int, .long, .int], returnType := some .boolean }, accessFlags := 9, code := some k1c1 }
/-- com/example/selvage/selvage/ZoneStatsLoadPerServerPinLaw -/
def k1 : Class := { plain "com/example/selvage/selvage/ZoneStatsLoadPerServerPinLaw" (some 0) with
  accessFlags := 49
  interfaces := #[]
  cf := some (fileOf pool1 31 #[] #[{ accessFlags := 1, nameIndex := 5, descriptorIndex := 6, attributes := #[] }, { accessFlags := 9, nameIndex := 35, descriptorIndex := 36, attributes := #[] }] 49 2 #[] #[])
  fields := #[]
  methods := #[k1m0, k1m1]
  instanceTypes := #[]
  staticTypes := #[]
  resolved := Array.replicate 40 none
  statics := none }

def pool2 : Array CpInfo := pool [(1, .methodref 2 3), (0, .class_ 4), (0, .nameAndType 5 6), (0, u "java/lang/Object"), (0, u "<init>"), (0, u "()V"), (0, .class_ 8), (0, u "java/lang/Record")] 13

def k2c0 : Code := { maxStack := 1, maxLocals := 1, code := jdk_30_method_1_code, exceptionTable := #[], attributes := #[] }
def k2m0 : Method := { name := "<init>", desc := "()V", sig := { parameters := [], returnType := none }, accessFlags := 4, code := some k2c0 }
/-- java/lang/Record -/
def k2 : Class := { plain "java/lang/Record" (some 0) with
  accessFlags := 1057
  interfaces := #[]
  cf := some (fileOf pool2 7 #[] #[{ accessFlags := 4, nameIndex := 5, descriptorIndex := 6, attributes := #[] }] 1057 2 #[] #[])
  fields := #[]
  methods := #[k2m0]
  instanceTypes := #[]
  staticTypes := #[]
  resolved := Array.replicate 22 none
  statics := none }

def pool3 : Array CpInfo := pool [(1, .methodref 2 3), (0, .class_ 4), (0, .nameAndType 5 6), (0, u "java/lang/Record"), (0, u "<init>"), (0, u "()V"), (9, .fieldref 17 18), (0, .class_ 19), (0, .nameAndType 20 21), (0, u "com/example/selvage/selvage/ZoneStats"), (0, u "instances"), (0, u "I"), (0, .fieldref 17 23), (0, .nameAndType 24 21), (0, u "skipped"), (0, .fieldref 17 26), (0, .nameAndType 27 28), (0, u "activeRequests"), (0, u "J"), (0, .methodref 17 30), (0, .nameAndType 31 32), (0, u "available"), (0, u "()I"), (0, .double 13830554455654793216), (13, u "(IIJ)V"), (4, u "loadPerServer"), (0, u "()D")] 33

def k3c0 : Code := { maxStack := 6, maxLocals := 5, code := prog_13_method_1_code, exceptionTable := #[], attributes := #[] }
def k3m0 : Method := { name := "<init>", desc := "(IIJ)V", sig := { parameters := [.int, .int, .long], returnType := none }, accessFlags := 1, code := some k3c0 }
def k3c1 : Code := { maxStack := 2, maxLocals := 1, code := prog_13_method_2_code, exceptionTable := #[], attributes := #[] }
def k3m1 : Method := { name := "available", desc := "()I", sig := { parameters := [], returnType := some .int }, accessFlags := 1, code := some k3c1 }
def k3c2 : Code := { maxStack := 4, maxLocals := 2, code := prog_13_method_3_code, exceptionTable := #[], attributes := #[] }
def k3m2 : Method := { name := "loadPerServer", desc := "()D", sig := { parameters := [], returnType := some .double }, accessFlags := 1, code := some k3c2 }
/-- com/example/selvage/selvage/ZoneStats -/
def k3 : Class := { plain "com/example/selvage/selvage/ZoneStats" (some 2) with
  accessFlags := 49
  interfaces := #[]
  cf := some (fileOf pool3 17 #[] #[{ accessFlags := 1, nameIndex := 5, descriptorIndex := 47, attributes := #[] }, { accessFlags := 1, nameIndex := 31, descriptorIndex := 32, attributes := #[] }, { accessFlags := 1, nameIndex := 52, descriptorIndex := 53, attributes := #[] }] 49 2 #[] #[{ accessFlags := 18, nameIndex := 20, descriptorIndex := 21, attributes := #[] }, { accessFlags := 18, nameIndex := 24, descriptorIndex := 21, attributes := #[] }, { accessFlags := 18, nameIndex := 27, descriptorIndex := 28, attributes := #[] }])
  fields := #[{ name := "instances", type := .int, accessFlags := 18, slot := 0, constantValue := 0 }, { name := "skipped", type := .int, accessFlags := 18, slot := 1, constantValue := 0 }, { name := "activeRequests", type := .long, accessFlags := 18, slot := 2, constantValue := 0 }]
  methods := #[k3m0, k3m1, k3m2]
  instanceTypes := #[.int, .int, .long]
  staticTypes := #[]
  resolved := Array.replicate 87 none
  statics := none }

def pool4 : Array CpInfo := pool [(1, u "java/lang/Cloneable"), (0, .class_ 1), (0, u "java/lang/Object"), (0, .class_ 3)] 3

/-- java/lang/Cloneable -/
def k4 : Class := { plain "java/lang/Cloneable" (some 0) with
  accessFlags := 1537
  interfaces := #[]
  cf := some (fileOf pool4 2 #[] #[] 1537 4 #[] #[])
  fields := #[]
  methods := #[]
  instanceTypes := #[]
  staticTypes := #[]
  resolved := Array.replicate 8 none
  statics := none }

def pool5 : Array CpInfo := pool [(1, u "java/io/Serializable"), (0, .class_ 1), (0, u "java/lang/Object"), (0, .class_ 3)] 3

/-- java/io/Serializable -/
def k5 : Class := { plain "java/io/Serializable" (some 0) with
  accessFlags := 1537
  interfaces := #[]
  cf := some (fileOf pool5 2 #[] #[] 1537 4 #[] #[])
  fields := #[]
  methods := #[]
  instanceTypes := #[]
  staticTypes := #[]
  resolved := Array.replicate 8 none
  statics := none }

/-- the primitive byte -/
def k6 : Class := { plain "byte" none with kind := .primitive 'B', accessFlags := 0x411 }
/-- [B -/
def k7 : Class := { plain "[B" (some 0) with kind := .array 6 .byte, interfaces := #[4, 5], accessFlags := 1041 }

/-- the primitive int -/
def k8 : Class := { plain "int" none with kind := .primitive 'I', accessFlags := 0x411 }
/-- [I -/
def k9 : Class := { plain "[I" (some 0) with kind := .array 8 .int, interfaces := #[4, 5], accessFlags := 1041 }

def heap : Heap := #[]
def classes : Array Class := #[k0, k1, k2, k3, k4, k5, k6, k7, k8, k9]
def interned : List (Array UInt16 × Addr) := []
def slotsUsed : Nat := 0
def theMethod : MethodId := ⟨1, 1⟩
def args0 : Array Value := #[.int 30, .int 4, .int 5, .int 6, .long 7, .int 2]
def aboutOver (below : List Frame) : State where
  vm := { classes := classes, interned := interned.toArray }
  heap := heap
  slotsUsed := slotsUsed
  threads := #[{ frames := .invoking theMethod args0 :: below }]
def below0 : List Frame := [.native { method := ⟨0, 0⟩, args := #[] }]
def about1 : State := aboutOver below0
def p0 : Program := .bare "" "" ""
def e0 : Env := launch0.env 0 0 0
theorem w_frames : about1.frames = Frame.invoking theMethod args0 :: below0 := rfl
set_option maxRecDepth 65536 in
theorem w_args : argsFit about1.vm theMethod args0 = true := by decide +kernel
set_option maxRecDepth 65536 in
theorem w_heap : heapFits about1 = true := by decide +kernel
set_option maxRecDepth 65536 in
theorem w_runnable : about1.curStatus? = some .runnable := by decide +kernel
set_option maxRecDepth 65536 in
theorem w_alone : about1.alone = true := by decide +kernel
set_option maxRecDepth 65536 in
theorem w_named : about1.methodNamed? x = some theMethod := by decide +kernel
set_option maxRecDepth 65536 in
theorem w_hears : about1.hears theMethod below0 = true := by decide +kernel
set_option maxRecDepth 65536 in
theorem w_ripe : about1.ripe theMethod args0 below0 = true := by decide +kernel
theorem w_running : about1.status = .running := rfl
set_option maxRecDepth 65536 in
theorem w_room : about1.hasRoom e0.platform room_1 = true :=
  launch0.hasRoom_least _ room_1 (by decide +kernel) (by decide +kernel) (by decide +kernel) (by decide +kernel) (by decide +kernel) (by decide +kernel)
theorem allAtoms_all (ts : List Jvm.Cond) (a : Array Jvm.Value) (st : Jvm.State) : (allAtoms ts).before a st = ts.all (fun c => c.before a st) := by
  induction ts with
  | nil => rfl
  | cons c t ih =>
    show (Jvm.Cond.and c (allAtoms t)).before a st = _
    rw [Jvm.Cond.before_and, ih, List.all_cons]
def words1 : List Jvm.Cond := Jvm.Cond.code x code maxLocals ret :: tables_1
/-- a 'code' word, met by the world's own term for the bytes: nothing is compared byte by byte -/
theorem code_word {y : MethodName} {bytes : ByteArray} {mx : Nat} {rt : Option FieldType} {a : Array Value} {s : State} {m : MethodId} {meth : Method} {c : Code} (h1 : s.methodNamed? y = some m) (h2 : s.vm.method? m = some meth) (h3 : meth.code = some c) (h4 : c.code = bytes)
    (h5 : (c.maxLocals == mx && c.exceptionTable.isEmpty && decide (c.maxStack ≤ mostOperands) && decide (meth.sig.returnType = rt) && !meth.locks && decide (parseMethodDescriptor y.desc = some meth.sig)) = true) : (Jvm.Cond.code y bytes mx rt).before a s = true := by
  simp only [Bool.and_eq_true, beq_iff_eq, Bool.not_eq_true', decide_eq_true_eq] at h5
  obtain ⟨⟨⟨⟨⟨g1, g2⟩, g3⟩, g4⟩, g5⟩, g6⟩ := h5
  simp [Cond.before, Cond.holds, Cond.value, h1, h2, h3, h4, g1, g2, g3, g4, g5, g6]
def isCode : Jvm.Cond → Bool
  | .code _ _ _ _ => true
  | _ => false
theorem all_split {L : List Jvm.Cond} {P : Jvm.Cond → Bool} (h1 : L.all (fun c => isCode c || P c) = true) (h2 : ∀ c ∈ L.filter isCode, P c = true) : L.all P = true := by
  refine List.all_eq_true.mpr fun c hc => ?_
  have h := List.all_eq_true.mp h1 c hc
  rcases Bool.eq_false_or_eq_true (isCode c) with hi | hi
  · exact h2 c (List.mem_filter.mpr ⟨hc, hi⟩)
  · simpa [hi] using h
set_option maxRecDepth 65536 in
theorem w_c0 : (Jvm.Cond.code x code maxLocals ret).before args0 about1 = true := code_word (m := ⟨1, 1⟩) (meth := k1m1) (c := k1c1) (by decide +kernel) rfl rfl rfl (by decide +kernel)
set_option maxRecDepth 65536 in
theorem w_c1 : (Jvm.Cond.code ({ cls := "com/example/selvage/selvage/ZoneStats", name := "<init>", desc := "(IIJ)V" } : Jvm.MethodName) prog_13_method_1_code (5 : Nat) (Option.none : Option Jvm.ClassFile.FieldType)).before args0 about1 = true := code_word (m := ⟨3, 0⟩) (meth := k3m0) (c := k3c0) (by decide +kernel) rfl rfl rfl (by decide +kernel)
set_option maxRecDepth 65536 in
theorem w_c2 : (Jvm.Cond.code ({ cls := "java/lang/Record", name := "<init>", desc := "()V" } : Jvm.MethodName) jdk_30_method_1_code (1 : Nat) (Option.none : Option Jvm.ClassFile.FieldType)).before args0 about1 = true := code_word (m := ⟨2, 0⟩) (meth := k2m0) (c := k2c0) (by decide +kernel) rfl rfl rfl (by decide +kernel)
set_option maxRecDepth 65536 in
theorem w_c3 : (Jvm.Cond.code ({ cls := "java/lang/Object", name := "<init>", desc := "()V" } : Jvm.MethodName) object_method_1_code (1 : Nat) (Option.none : Option Jvm.ClassFile.FieldType)).before args0 about1 = true := code_word (m := ⟨0, 0⟩) (meth := k0m0) (c := k0c0) (by decide +kernel) rfl rfl rfl (by decide +kernel)
set_option maxRecDepth 65536 in
theorem w_c4 : (Jvm.Cond.code ({ cls := "com/example/selvage/selvage/ZoneStats", name := "loadPerServer", desc := "()D" } : Jvm.MethodName) prog_13_method_3_code (2 : Nat) (Option.some Jvm.ClassFile.FieldType.double)).before args0 about1 = true := code_word (m := ⟨3, 2⟩) (meth := k3m2) (c := k3c2) (by decide +kernel) rfl rfl rfl (by decide +kernel)
set_option maxRecDepth 65536 in
theorem w_c5 : (Jvm.Cond.code ({ cls := "com/example/selvage/selvage/ZoneStats", name := "available", desc := "()I" } : Jvm.MethodName) prog_13_method_2_code (1 : Nat) (Option.some Jvm.ClassFile.FieldType.int)).before args0 about1 = true := code_word (m := ⟨3, 1⟩) (meth := k3m1) (c := k3c1) (by decide +kernel) rfl rfl rfl (by decide +kernel)
def codes1 : List Jvm.Cond := [Jvm.Cond.code x code maxLocals ret, Jvm.Cond.code ({ cls := "com/example/selvage/selvage/ZoneStats", name := "<init>", desc := "(IIJ)V" } : Jvm.MethodName) prog_13_method_1_code (5 : Nat) (Option.none : Option Jvm.ClassFile.FieldType), Jvm.Cond.code ({ cls := "java/lang/Record", name := "<init>", desc := "()V" } : Jvm.MethodName) jdk_30_method_1_code (1 : Nat) (Option.none : Option Jvm.ClassFile.FieldType), Jvm.Cond.code ({ cls := "java/lang/Object", name := "<init>", desc := "()V" } : Jvm.MethodName) object_method_1_code (1 : Nat) (Option.none : Option Jvm.ClassFile.FieldType), Jvm.Cond.code ({ cls := "com/example/selvage/selvage/ZoneStats", name := "loadPerServer", desc := "()D" } : Jvm.MethodName) prog_13_method_3_code (2 : Nat) (Option.some Jvm.ClassFile.FieldType.double), Jvm.Cond.code ({ cls := "com/example/selvage/selvage/ZoneStats", name := "available", desc := "()I" } : Jvm.MethodName) prog_13_method_2_code (1 : Nat) (Option.some Jvm.ClassFile.FieldType.int)]
set_option maxRecDepth 65536 in
theorem codes_eq : words1.filter isCode = codes1 := rfl
theorem w_codes : ∀ c ∈ words1.filter isCode, c.before args0 about1 = true := by
  rw [codes_eq]
  intro c hc
  simp only [codes1, List.mem_cons, List.not_mem_nil, or_false] at hc
  rcases hc with rfl | rfl | rfl | rfl | rfl | rfl
  · exact w_c0
  · exact w_c1
  · exact w_c2
  · exact w_c3
  · exact w_c4
  · exact w_c5
set_option maxRecDepth 65536 in
theorem w_t1 : (words1.take 24).all (fun c => isCode c || c.before args0 about1) = true := by decide +kernel
set_option maxRecDepth 65536 in
theorem w_t2 : (words1.drop 24).all (fun c => isCode c || c.before args0 about1) = true := by decide +kernel
theorem w_tables : (allAtoms (Jvm.Cond.code x code maxLocals ret :: tables_1)).before args0 about1 = true := by
  rw [allAtoms_all]
  show words1.all (fun c => c.before args0 about1) = true
  refine all_split ?_ w_codes
  rw [← List.take_append_drop 24 words1, List.all_append, w_t1, w_t2]
  rfl
set_option maxRecDepth 65536 in
theorem w_case : (Jvm.Cond.and given_1 narrow_1).before args0 about1 = true := by decide +kernel
theorem w_applies : (headSpec (Jvm.Cond.code x code maxLocals ret :: tables_1) room_1).applies x e0.platform about1 = true :=
  (Spec.applies_iff w_frames).mpr ⟨w_running, w_runnable, w_alone, w_named, w_hears, w_ripe, w_room, w_tables⟩
theorem atStart : AtStart classFile x code maxLocals ret World_1 tables_1 room_1 Calls_1 rest_1 Pre_1 launch0 p0 e0 about1 theMethod args0 below0 :=
  ⟨lists_1, trivial, launch0.admits_env _ _ _, launch0.least_env, fairChoices_fair.cas, fairChoices_fair.clock, w_frames, w_args, w_heap, w_applies, trivial, trivial, w_case⟩
end start1
theorem witness_1 : WitnessClaimed_1 := ⟨start1.p0, start1.e0, start1.about1, start1.theMethod, start1.args0, start1.below0, start1.atStart⟩
end Jvm.Pilot.@@N@@
