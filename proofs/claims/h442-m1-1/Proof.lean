import JvmDerived
import JvmDerived.Pilot.@@N@@Statement
import JvmDerived.Pilot.@@N@@Code
set_option linter.unusedVariables false
set_option linter.unusedSimpArgs false

namespace Jvm.Pilot.@@N@@
open Jvm Jvm.ClassFile Sem Op Lib Jvm.Free Jvm.Stand Jvm.LawKit Jvm.RoadKit Bundle Jvm.Pilot.@@N@@.Jvm.D
/-- the run comes from the state A to an end of which P holds -/
def Ends (p : Program) (e : Env) (below : List Frame) (P : State → Outcome → Prop) (A : State) : Prop := ∃ t o, Steps p.tables e below A t ∧ t.status = .running ∧ Ended t below o ∧ P t o
theorem Ends.pre {p : Program} {e : Env} {below : List Frame} {P : State → Outcome → Prop} {A B : State} (h : ∀ t, Steps p.tables e below B t → Steps p.tables e below A t) (k : Ends p e below P B) : Ends p e below P A := by
  obtain ⟨t, o, h1, h2⟩ := k
  exact ⟨t, o, h t h1, h2⟩
theorem own_sta_keep0 {Z : State} {h h' : Heap} {C n d : String} {v : Value} (F : Sta Z h C n d v) (K : Keep h h' []) : Sta Z h' C n d v := by
  obtain ⟨cf, i, k, f, st, cell, h1, h2, h3, h4, h5, h6, h7⟩ := F
  exact ⟨cf, i, k, f, st, cell, h1, h2, h3, h4, K.2.1 _ _ h5 nin0, h6, h7⟩
theorem own_sta_keep1 {Z : State} {h h' : Heap} {C n d : String} {v : Value} {b : Addr} {C' : String} (F : Sta Z h C n d v) (K : Keep h h' [b]) (E : Exa Z h b C') : Sta Z h' C n d v := by
  obtain ⟨cf, i, k, f, st, cell, h1, h2, h3, h4, h5, h6, h7⟩ := F
  obtain ⟨c2, k2, g1, g2, g3, g4, g5⟩ := E
  have ne : st ≠ b := fun q => by subst q; cases h5.symm.trans g1; rw [h6] at g4; cases g4
  exact ⟨cf, i, k, f, st, cell, h1, h2, h3, h4, K.2.1 _ _ h5 (ninS ne nin0), h6, h7⟩

/-- the running sum after n turns -/
def own_acc (n : Int32) (u g0 g1 g2 g3 : UInt64) : UInt64 := if n = 0 then u else if n = 1 then FP.dadd u g0 else if n = 2 then FP.dadd (FP.dadd u g0) g1 else if n = 3 then FP.dadd (FP.dadd (FP.dadd u g0) g1) g2 else FP.dadd (FP.dadd (FP.dadd (FP.dadd u g0) g1) g2) g3
def own_accI (n : Int32) (u g0 g1 g2 g3 : Int64) : Int64 := if n = 0 then u else if n = 1 then u + g0 else if n = 2 then u + g0 + g1 else if n = 3 then u + g0 + g1 + g2 else u + g0 + g1 + g2 + g3
def own_e (b rv n k j : Int32) (vs : List Value) : List Value := if b = 0 then vs else if rv = 0 then vs.set k.toNatClampNeg (.int j) else vs.set (n - 1 - k).toNatClampNeg (.int j)
def own_r (b : Int32) (r w : Int64) : Int64 := if b = 0 then r else r + w
theorem own_r0 (r w : Int64) : own_r 0 r w = r := rfl
theorem own_r1 (r w : Int64) : own_r 1 r w = r + w := rfl
def own_v0 : List Value := [.int 0, .int 0, .int 0, .int 0]
def own_v1 (b0 rv n : Int32) : List Value := own_e b0 rv n 0 0 own_v0
def own_v2 (b0 b1 rv n : Int32) : List Value := own_e b1 rv n (0 + b0) 1 (own_v1 b0 rv n)
def own_v3 (b0 b1 b2 rv n : Int32) : List Value := own_e b2 rv n (0 + b0 + b1) 2 (own_v2 b0 b1 rv n)
def own_v4 (b0 b1 b2 b3 rv n : Int32) : List Value := own_e b3 rv n (0 + b0 + b1 + b2) 3 (own_v3 b0 b1 b2 rv n)
def own_n (b0 b1 b2 b3 : Int32) : Int32 := b0 + b1 + b2 + b3
theorem own_nr {b0 b1 b2 b3 : Int32} (h0 : b0 = 0 ∨ b0 = 1) (h1 : b1 = 0 ∨ b1 = 1) (h2 : b2 = 0 ∨ b2 = 1) (h3 : b3 = 0 ∨ b3 = 1) : own_n b0 b1 b2 b3 = 0 ∨ own_n b0 b1 b2 b3 = 1 ∨ own_n b0 b1 b2 b3 = 2 ∨ own_n b0 b1 b2 b3 = 3 ∨ own_n b0 b1 b2 b3 = 4 := by
  rcases h0 with rfl | rfl <;> rcases h1 with rfl | rfl <;> rcases h2 with rfl | rfl <;> rcases h3 with rfl | rfl <;> decide
theorem own_nn0 {n : Int32} (h : n = 0 ∨ n = 1 ∨ n = 2 ∨ n = 3 ∨ n = 4) : ¬ n < 0 ∧ n.toNatClampNeg ≤ 4 := by
  rcases h with rfl | rfl | rfl | rfl | rfl <;> decide

theorem own_ia0 {b0 b1 b2 b3 rv : Int32} (h0 : b0 = 0 ∨ b0 = 1) (h1 : b1 = 0 ∨ b1 = 1) (h2 : b2 = 0 ∨ b2 = 1) (h3 : b3 = 0 ∨ b3 = 1) (hj : ¬ b0 = 0) : ¬ ((0 : Int32)) < 0 ∧ ((0 : Int32)) < own_n b0 b1 b2 b3 ∧ ((0 : Int32)).toNatClampNeg < 4 := by
  rcases h0 with rfl | rfl <;> rcases h1 with rfl | rfl <;> rcases h2 with rfl | rfl <;> rcases h3 with rfl | rfl <;> first | exact absurd rfl hj | decide
theorem own_ib0 {b0 b1 b2 b3 rv : Int32} (h0 : b0 = 0 ∨ b0 = 1) (h1 : b1 = 0 ∨ b1 = 1) (h2 : b2 = 0 ∨ b2 = 1) (h3 : b3 = 0 ∨ b3 = 1) (hj : ¬ b0 = 0) : ¬ (own_n b0 b1 b2 b3 - 1 - ((0 : Int32))) < 0 ∧ (own_n b0 b1 b2 b3 - 1 - ((0 : Int32))) < own_n b0 b1 b2 b3 ∧ (own_n b0 b1 b2 b3 - 1 - ((0 : Int32))).toNatClampNeg < 4 := by
  rcases h0 with rfl | rfl <;> rcases h1 with rfl | rfl <;> rcases h2 with rfl | rfl <;> rcases h3 with rfl | rfl <;> first | exact absurd rfl hj | decide
theorem own_ia1 {b0 b1 b2 b3 rv : Int32} (h0 : b0 = 0 ∨ b0 = 1) (h1 : b1 = 0 ∨ b1 = 1) (h2 : b2 = 0 ∨ b2 = 1) (h3 : b3 = 0 ∨ b3 = 1) (hj : ¬ b1 = 0) : ¬ ((0 : Int32) + b0) < 0 ∧ ((0 : Int32) + b0) < own_n b0 b1 b2 b3 ∧ ((0 : Int32) + b0).toNatClampNeg < 4 := by
  rcases h0 with rfl | rfl <;> rcases h1 with rfl | rfl <;> rcases h2 with rfl | rfl <;> rcases h3 with rfl | rfl <;> first | exact absurd rfl hj | decide
theorem own_ib1 {b0 b1 b2 b3 rv : Int32} (h0 : b0 = 0 ∨ b0 = 1) (h1 : b1 = 0 ∨ b1 = 1) (h2 : b2 = 0 ∨ b2 = 1) (h3 : b3 = 0 ∨ b3 = 1) (hj : ¬ b1 = 0) : ¬ (own_n b0 b1 b2 b3 - 1 - ((0 : Int32) + b0)) < 0 ∧ (own_n b0 b1 b2 b3 - 1 - ((0 : Int32) + b0)) < own_n b0 b1 b2 b3 ∧ (own_n b0 b1 b2 b3 - 1 - ((0 : Int32) + b0)).toNatClampNeg < 4 := by
  rcases h0 with rfl | rfl <;> rcases h1 with rfl | rfl <;> rcases h2 with rfl | rfl <;> rcases h3 with rfl | rfl <;> first | exact absurd rfl hj | decide
theorem own_ia2 {b0 b1 b2 b3 rv : Int32} (h0 : b0 = 0 ∨ b0 = 1) (h1 : b1 = 0 ∨ b1 = 1) (h2 : b2 = 0 ∨ b2 = 1) (h3 : b3 = 0 ∨ b3 = 1) (hj : ¬ b2 = 0) : ¬ ((0 : Int32) + b0 + b1) < 0 ∧ ((0 : Int32) + b0 + b1) < own_n b0 b1 b2 b3 ∧ ((0 : Int32) + b0 + b1).toNatClampNeg < 4 := by
  rcases h0 with rfl | rfl <;> rcases h1 with rfl | rfl <;> rcases h2 with rfl | rfl <;> rcases h3 with rfl | rfl <;> first | exact absurd rfl hj | decide
theorem own_ib2 {b0 b1 b2 b3 rv : Int32} (h0 : b0 = 0 ∨ b0 = 1) (h1 : b1 = 0 ∨ b1 = 1) (h2 : b2 = 0 ∨ b2 = 1) (h3 : b3 = 0 ∨ b3 = 1) (hj : ¬ b2 = 0) : ¬ (own_n b0 b1 b2 b3 - 1 - ((0 : Int32) + b0 + b1)) < 0 ∧ (own_n b0 b1 b2 b3 - 1 - ((0 : Int32) + b0 + b1)) < own_n b0 b1 b2 b3 ∧ (own_n b0 b1 b2 b3 - 1 - ((0 : Int32) + b0 + b1)).toNatClampNeg < 4 := by
  rcases h0 with rfl | rfl <;> rcases h1 with rfl | rfl <;> rcases h2 with rfl | rfl <;> rcases h3 with rfl | rfl <;> first | exact absurd rfl hj | decide
theorem own_ia3 {b0 b1 b2 b3 rv : Int32} (h0 : b0 = 0 ∨ b0 = 1) (h1 : b1 = 0 ∨ b1 = 1) (h2 : b2 = 0 ∨ b2 = 1) (h3 : b3 = 0 ∨ b3 = 1) (hj : ¬ b3 = 0) : ¬ ((0 : Int32) + b0 + b1 + b2) < 0 ∧ ((0 : Int32) + b0 + b1 + b2) < own_n b0 b1 b2 b3 ∧ ((0 : Int32) + b0 + b1 + b2).toNatClampNeg < 4 := by
  rcases h0 with rfl | rfl <;> rcases h1 with rfl | rfl <;> rcases h2 with rfl | rfl <;> rcases h3 with rfl | rfl <;> first | exact absurd rfl hj | decide
theorem own_ib3 {b0 b1 b2 b3 rv : Int32} (h0 : b0 = 0 ∨ b0 = 1) (h1 : b1 = 0 ∨ b1 = 1) (h2 : b2 = 0 ∨ b2 = 1) (h3 : b3 = 0 ∨ b3 = 1) (hj : ¬ b3 = 0) : ¬ (own_n b0 b1 b2 b3 - 1 - ((0 : Int32) + b0 + b1 + b2)) < 0 ∧ (own_n b0 b1 b2 b3 - 1 - ((0 : Int32) + b0 + b1 + b2)) < own_n b0 b1 b2 b3 ∧ (own_n b0 b1 b2 b3 - 1 - ((0 : Int32) + b0 + b1 + b2)).toNatClampNeg < 4 := by
  rcases h0 with rfl | rfl <;> rcases h1 with rfl | rfl <;> rcases h2 with rfl | rfl <;> rcases h3 with rfl | rfl <;> first | exact absurd rfl hj | decide
theorem own_el (b rv n k j : Int32) (vs : List Value) : (own_e b rv n k j vs).length = vs.length := by
  unfold own_e; split
  · rfl
  · split <;> simp
theorem own_l1 (b0 rv n : Int32) : (own_v1 b0 rv n).length = 4 := by unfold own_v1; rw [own_el]; rfl
theorem own_l2 (b0 b1 rv n : Int32) : (own_v2 b0 b1 rv n).length = 4 := by unfold own_v2; rw [own_el, own_l1]
theorem own_l3 (b0 b1 b2 rv n : Int32) : (own_v3 b0 b1 b2 rv n).length = 4 := by unfold own_v3; rw [own_el, own_l2]
def own_W (w0 w1 w2 w3 : Int32) (e : Int32) : Int64 := if e = 0 then w0.toInt64 else if e = 1 then w1.toInt64 else if e = 2 then w2.toInt64 else w3.toInt64
theorem own_fin {b0 b1 b2 b3 rv : Int32} (h0 : b0 = 0 ∨ b0 = 1) (h1 : b1 = 0 ∨ b1 = 1) (h2 : b2 = 0 ∨ b2 = 1) (h3 : b3 = 0 ∨ b3 = 1) (hr : rv = 0 ∨ rv = 1) :
    ∃ e0 e1 e2 e3 : Int32, own_v4 b0 b1 b2 b3 rv (own_n b0 b1 b2 b3) = [.int e0, .int e1, .int e2, .int e3]
      ∧ ((e0 = 0 ∨ e0 = 1 ∨ e0 = 2 ∨ e0 = 3) ∧ (e1 = 0 ∨ e1 = 1 ∨ e1 = 2 ∨ e1 = 3) ∧ (e2 = 0 ∨ e2 = 1 ∨ e2 = 2 ∨ e2 = 3) ∧ (e3 = 0 ∨ e3 = 1 ∨ e3 = 2 ∨ e3 = 3))
      ∧ ∀ (W : Int32 → Int64) (B : Int64), own_accI (own_n b0 b1 b2 b3) B (W e0) (W e1) (W e2) (W e3) = own_r b3 (own_r b2 (own_r b1 (own_r b0 B (W 0)) (W 1)) (W 2)) (W 3) := by
  rcases h0 with rfl | rfl <;> rcases h1 with rfl | rfl <;> rcases h2 with rfl | rfl <;> rcases h3 with rfl | rfl <;> rcases hr with rfl | rfl <;>
    exact ⟨_, _, _, _, rfl, by decide, fun W B => by
      first
        | rfl
        | (simp only [own_r0, own_r1]; show _ + _ = _; ac_rfl)⟩
theorem own_sm (x : Int32) : Jvm.FP.Core.Small53 x.toInt64 := by
  have r := rng32 x; unfold Jvm.FP.Core.Small53; rw [c_i2l]; omega
theorem own_Wr (w0 w1 w2 w3 e : Int32) : -2147483648 ≤ (own_W w0 w1 w2 w3 e).toInt ∧ (own_W w0 w1 w2 w3 e).toInt < 2147483648 := by
  have a := rng32 w0; have b := rng32 w1; have c := rng32 w2; have d := rng32 w3
  unfold own_W; split
  · rw [c_i2l]; exact a
  · split
    · rw [c_i2l]; exact b
    · split
      · rw [c_i2l]; exact c
      · rw [c_i2l]; exact d
theorem own_pick {w0 w1 w2 w3 bb e : Int32} (h : e = 0 ∨ e = 1 ∨ e = 2 ∨ e = 3) :
    ¬ e < 0 ∧ e < (5 : Int32) ∧ [Value.double (FP.i2d w0), .double (FP.i2d w1), .double (FP.i2d w2), .double (FP.i2d w3), .double (FP.i2d bb)].getD e.toNatClampNeg (.double 0) = .double (FP.l2d (own_W w0 w1 w2 w3 e)) := by
  rcases h with rfl | rfl | rfl | rfl
  · exact ⟨by decide, by decide, by show Value.double (FP.i2d w0) = _; rw [i2d_w]; rfl⟩
  · exact ⟨by decide, by decide, by show Value.double (FP.i2d w1) = _; rw [i2d_w]; rfl⟩
  · exact ⟨by decide, by decide, by show Value.double (FP.i2d w2) = _; rw [i2d_w]; rfl⟩
  · exact ⟨by decide, by decide, by show Value.double (FP.i2d w3) = _; rw [i2d_w]; rfl⟩
theorem own_add {a b : Int64} {A B : Int} (ha : -A ≤ a.toInt ∧ a.toInt ≤ A) (hb : -B ≤ b.toInt ∧ b.toInt ≤ B) (h : A + B < 9007199254740992) (hA : 0 ≤ A) (hB : 0 ≤ B) : FP.dadd (FP.l2d a) (FP.l2d b) = FP.l2d (a + b) ∧ (-(A + B) ≤ (a + b).toInt ∧ (a + b).toInt ≤ A + B) := by
  have c := c_ladd a b
  have r := rng64 (a + b)
  refine ⟨Jvm.FP.Core.dadd_l2d ⟨by omega, by omega⟩ ⟨by omega, by omega⟩, by omega, by omega⟩
theorem own_sums {u g0 g1 g2 g3 : Int64} (hu : -2147483648 ≤ u.toInt ∧ u.toInt < 2147483648) (h0 : -2147483648 ≤ g0.toInt ∧ g0.toInt < 2147483648) (h1 : -2147483648 ≤ g1.toInt ∧ g1.toInt < 2147483648) (h2 : -2147483648 ≤ g2.toInt ∧ g2.toInt < 2147483648) (h3 : -2147483648 ≤ g3.toInt ∧ g3.toInt < 2147483648) :
    FP.dadd (FP.l2d u) (FP.l2d g0) = FP.l2d (u + g0) ∧ FP.dadd (FP.dadd (FP.l2d u) (FP.l2d g0)) (FP.l2d g1) = FP.l2d (u + g0 + g1) ∧ FP.dadd (FP.dadd (FP.dadd (FP.l2d u) (FP.l2d g0)) (FP.l2d g1)) (FP.l2d g2) = FP.l2d (u + g0 + g1 + g2) ∧ FP.dadd (FP.dadd (FP.dadd (FP.dadd (FP.l2d u) (FP.l2d g0)) (FP.l2d g1)) (FP.l2d g2)) (FP.l2d g3) = FP.l2d (u + g0 + g1 + g2 + g3) := by
  obtain ⟨a1, r1⟩ := own_add (a := u) (b := g0) (A := 2147483648) (B := 2147483648) ⟨by omega, by omega⟩ ⟨by omega, by omega⟩ (by omega) (by omega) (by omega)
  obtain ⟨a2, r2⟩ := own_add (a := u + g0) (b := g1) (B := 2147483648) r1 ⟨by omega, by omega⟩ (by omega) (by omega) (by omega)
  obtain ⟨a3, r3⟩ := own_add (a := u + g0 + g1) (b := g2) (B := 2147483648) r2 ⟨by omega, by omega⟩ (by omega) (by omega) (by omega)
  obtain ⟨a4, r4⟩ := own_add (a := u + g0 + g1 + g2) (b := g3) (B := 2147483648) r3 ⟨by omega, by omega⟩ (by omega) (by omega) (by omega)
  refine ⟨a1, by rw [a1, a2], by rw [a1, a2, a3], by rw [a1, a2, a3, a4]⟩
theorem own_accE {n : Int32} {u g0 g1 g2 g3 : Int64} (hu : -2147483648 ≤ u.toInt ∧ u.toInt < 2147483648) (h0 : -2147483648 ≤ g0.toInt ∧ g0.toInt < 2147483648) (h1 : -2147483648 ≤ g1.toInt ∧ g1.toInt < 2147483648) (h2 : -2147483648 ≤ g2.toInt ∧ g2.toInt < 2147483648) (h3 : -2147483648 ≤ g3.toInt ∧ g3.toInt < 2147483648) :
    own_acc n (FP.l2d u) (FP.l2d g0) (FP.l2d g1) (FP.l2d g2) (FP.l2d g3) = FP.l2d (own_accI n u g0 g1 g2 g3) := by
  obtain ⟨a1, a2, a3, a4⟩ := own_sums hu h0 h1 h2 h3
  unfold own_acc own_accI
  split
  · rfl
  · split
    · exact a1
    · split
      · exact a2
      · split
        · exact a3
        · exact a4
theorem own_nnl {x : UInt64} {a : Int64} (h : x = FP.l2d a) : Jvm.Free.Fl.NoNaN64 x := nn_w h
theorem d3_0 : decode prog_31_method_3_code 0 = .ok (.aload_n 1, 1) := by decide +kernel
theorem d3_1 : decode prog_31_method_3_code 1 = .ok (.aload_n 1, 1) := by decide +kernel
theorem d3_2 : decode prog_31_method_3_code 2 = .ok (.arraylength, 1) := by decide +kernel
theorem d3_3 : decode prog_31_method_3_code 3 = .ok (.iconst 1, 1) := by decide +kernel
theorem d3_4 : decode prog_31_method_3_code 4 = .ok (.isub, 1) := by decide +kernel
theorem d3_5 : decode prog_31_method_3_code 5 = .ok (.daload, 1) := by decide +kernel
theorem d3_6 : decode prog_31_method_3_code 6 = .ok (.dstore_n 2, 1) := by decide +kernel
theorem d3_7 : decode prog_31_method_3_code 7 = .ok (.aload_n 0, 1) := by decide +kernel
theorem d3_8 : decode prog_31_method_3_code 8 = .ok (.astore 4, 2) := by decide +kernel
theorem d3_10 : decode prog_31_method_3_code 10 = .ok (.aload 4, 2) := by decide +kernel
theorem d3_12 : decode prog_31_method_3_code 12 = .ok (.arraylength, 1) := by decide +kernel
theorem d3_13 : decode prog_31_method_3_code 13 = .ok (.istore 5, 2) := by decide +kernel
theorem d3_15 : decode prog_31_method_3_code 15 = .ok (.iconst 0, 1) := by decide +kernel
theorem d3_16 : decode prog_31_method_3_code 16 = .ok (.istore 6, 2) := by decide +kernel
theorem d3_18 : decode prog_31_method_3_code 18 = .ok (.iload 6, 2) := by decide +kernel
theorem d3_20 : decode prog_31_method_3_code 20 = .ok (.iload 5, 2) := by decide +kernel
theorem d3_22 : decode prog_31_method_3_code 22 = .ok (.if_icmp .ge 23, 3) := by decide +kernel
theorem d3_25 : decode prog_31_method_3_code 25 = .ok (.aload 4, 2) := by decide +kernel
theorem d3_27 : decode prog_31_method_3_code 27 = .ok (.iload 6, 2) := by decide +kernel
theorem d3_29 : decode prog_31_method_3_code 29 = .ok (.iaload, 1) := by decide +kernel
theorem d3_30 : decode prog_31_method_3_code 30 = .ok (.istore 7, 2) := by decide +kernel
theorem d3_32 : decode prog_31_method_3_code 32 = .ok (.dload_n 2, 1) := by decide +kernel
theorem d3_33 : decode prog_31_method_3_code 33 = .ok (.aload_n 1, 1) := by decide +kernel
theorem d3_34 : decode prog_31_method_3_code 34 = .ok (.iload 7, 2) := by decide +kernel
theorem d3_36 : decode prog_31_method_3_code 36 = .ok (.daload, 1) := by decide +kernel
theorem d3_37 : decode prog_31_method_3_code 37 = .ok (.dadd, 1) := by decide +kernel
theorem d3_38 : decode prog_31_method_3_code 38 = .ok (.dstore_n 2, 1) := by decide +kernel
theorem d3_39 : decode prog_31_method_3_code 39 = .ok (.iinc 6 1, 3) := by decide +kernel
theorem d3_42 : decode prog_31_method_3_code 42 = .ok (.goto (-24), 3) := by decide +kernel
theorem d3_45 : decode prog_31_method_3_code 45 = .ok (.dload_n 2, 1) := by decide +kernel
theorem d3_46 : decode prog_31_method_3_code 46 = .ok (.dreturn, 1) := by decide +kernel
theorem pn3 : plainName "com/example/haku/haku/triage/LogisticRegression" = true := by first | (simp [plainName, overriddenIn]; done) | decide +kernel
theorem ef3 (m : MethodId) (x0 : Addr) (x1 : Addr) : entryFrame m #[(.ref x0), (.ref x1)] 8 = mkF m 0 #[.val (.ref x0), .val (.ref x1), .unset, .unset, .unset, .unset, .unset, .unset] [] := by first | (simp [entryFrame, mkF, argsToLocals, Value.category]; done) | rfl
def Q3 (Z : State) (ax : Addr) (aw : Addr) (kX : ClassId) (kW : ClassId) (n : Int32) (x0 : Int32) (x1 : Int32) (x2 : Int32) (x3 : Int32) (u0 : UInt64) (u1 : UInt64) (u2 : UInt64) (u3 : UInt64) (u4 : UInt64) (g0 : UInt64) (g1 : UInt64) (g2 : UInt64) (g3 : UInt64) (h0 : Heap) (n0 : Nat) (v : Option Value) (h : Heap) (L : List Loc) : Prop := v = some (.double (own_acc n u4 g0 g1 g2 g3)) ∧ Fr n0 L ∧ h = h0
set_option maxRecDepth 65536 in
set_option maxHeartbeats 40000000 in
theorem rm3 (l : Launch) (Z : State) (a0 : Array Value) (hw : ∀ d ∈ tables_1, d.before a0 Z = true) (ws : List Jvm.Cond) (ax : Addr) (aw : Addr) (kX : ClassId) (kW : ClassId) (n : Int32) (x0 : Int32) (x1 : Int32) (x2 : Int32) (x3 : Int32) (u0 : UInt64) (u1 : UInt64) (u2 : UInt64) (u3 : UInt64) (u4 : UInt64) (g0 : UInt64) (g1 : UInt64) (g2 : UInt64) (g3 : UInt64) (h0 : Heap) (n0 : Nat) (Z0 : n0 ≤ h0.size) (V_ax : Arv Z h0 ax kX .int n [(.int x0), (.int x1), (.int x2), (.int x3)] (.int 0)) (V_aw : Arv Z h0 aw kW .double (5 : Int32) [(.double u0), (.double u1), (.double u2), (.double u3), (.double u4)] (.double 0)) (hn : n = 0 ∨ n = 1 ∨ n = 2 ∨ n = 3 ∨ n = 4) (he0 : ¬ x0 < 0 ∧ x0 < (5 : Int32)) (he1 : ¬ x1 < 0 ∧ x1 < (5 : Int32)) (he2 : ¬ x2 < 0 ∧ x2 < (5 : Int32)) (he3 : ¬ x3 < 0 ∧ x3 < (5 : Int32)) (hg0 : [(Value.double u0), (Value.double u1), (Value.double u2), (Value.double u3), (Value.double u4)].getD x0.toNatClampNeg (.double 0) = .double g0) (hg1 : [(Value.double u0), (Value.double u1), (Value.double u2), (Value.double u3), (Value.double u4)].getD x1.toNatClampNeg (.double 0) = .double g1) (hg2 : [(Value.double u0), (Value.double u1), (Value.double u2), (Value.double u3), (Value.double u4)].getD x2.toNatClampNeg (.double 0) = .double g2) (hg3 : [(Value.double u0), (Value.double u1), (Value.double u2), (Value.double u3), (Value.double u4)].getD x3.toNatClampNeg (.double 0) = .double g3) (nn1 : Jvm.Free.Fl.NoNaN64 (FP.dadd u4 g0)) (nn2 : Jvm.Free.Fl.NoNaN64 (FP.dadd (FP.dadd u4 g0) g1)) (nn3 : Jvm.Free.Fl.NoNaN64 (FP.dadd (FP.dadd (FP.dadd u4 g0) g1) g2)) (nn4 : Jvm.Free.Fl.NoNaN64 (FP.dadd (FP.dadd (FP.dadd (FP.dadd u4 g0) g1) g2) g3)) :
    MetFree l (⟨"com/example/haku/haku/triage/LogisticRegression", "logOdds", "([I[D)D"⟩ : MethodName) (head1 (Jvm.Cond.code (⟨"com/example/haku/haku/triage/LogisticRegression", "logOdds", "([I[D)D"⟩ : MethodName) prog_31_method_3_code 8 (some .double) :: ws) ({ frames := 0, cells := 0, slots := 0, locals := 0 } : Room)) (fun aa U => aa = #[(.ref ax), (.ref aw)] ∧ Z.Warmed39 U.vm ∧ U.heap = h0) (fun _ _ _ _ _ => True) (fun _ UU oo UU' => ∃ vv LL, oo = .returned vv ∧ Q3 Z ax aw kX kW n x0 x1 x2 x3 u0 u1 u2 u3 u4 g0 g1 g2 g3 h0 n0 vv UU'.heap LL ∧ FrameEnd UU oo UU' LL ({ frames := 0, cells := 0, slots := 0, locals := 0 } : Room).cells ({ frames := 0, cells := 0, slots := 0, locals := 0 } : Room).slots) := by
  refine MetFree.of_bodySF (plainFor_of_name pn3) hisR ?_
  intro p e s m args below meth c s₁ Bd hml0 hP hK
  obtain ⟨rfl, hZ, hh⟩ := hP
  have hx := Bd.exec
  have hby := Bd.bytes
  have hml : c.maxLocals = 8 := hml0
  have hown : s.vm.findClass "com/example/haku/haku/triage/LogisticRegression" = some m.cls := findClass_of_methodNamed Bd.named
  have hnm := (name_of_methodNamed Bd.named Bd.method).1
  have X0 : Stand p l e ({ frames := 0, cells := 0, slots := 0, locals := 0 } : Room) s m #[(.ref ax), (.ref aw)] below meth c s₁ [] 0 0 := Stand.of_body Bd
  have e0 : s₁.heap = h0 := by rw [← hh, Bd.state]; rfl
  have N0 := Fr.nil n0
  show Ends p e below (fun tt oo => ∃ vv LL, oo = .returned vv ∧ Q3 Z ax aw kX kW n x0 x1 x2 x3 u0 u1 u2 u3 u4 g0 g1 g2 g3 h0 n0 vv tt.heap LL ∧ FrameEnd s oo tt LL ({ frames := 0, cells := 0, slots := 0, locals := 0 } : Room).cells ({ frames := 0, cells := 0, slots := 0, locals := 0 } : Room).slots) (s₁.setTop (entryFrame m #[(.ref ax), (.ref aw)] 8))
  refine Ends.pre (fun t k => castTop (ef3 m ax aw) k) ?_
  show Ends p e below _ (s₁.setTop (mkF m 0 #[.val (.ref ax), .val (.ref aw), .unset, .unset, .unset, .unset, .unset, .unset] []))
  refine Ends.pre (fun tt kt => XS.aloadN X0.here hx rfl (hb hby d3_0) rfl rfl kt) ?_
  show Ends p e below _ (s₁.setTop (mkF m 1 #[.val (.ref ax), .val (.ref aw), .unset, .unset, .unset, .unset, .unset, .unset] [(.ref aw)]))
  refine Ends.pre (fun tt kt => XS.aloadN X0.here hx rfl (hb hby d3_1) rfl rfl kt) ?_
  show Ends p e below _ (s₁.setTop (mkF m 2 #[.val (.ref ax), .val (.ref aw), .unset, .unset, .unset, .unset, .unset, .unset] [(.ref aw), (.ref aw)]))
  obtain ⟨cl1, Ar1, -, sa1, na1, -, -⟩ := id V_aw
  refine Ends.pre (fun tt kt => X0.arraylength hx (by rw [e0]; exact Ar1.1) (State.isArrayOf_alike hZ.alike Ar1.2.1) (g := (mkF m 2 #[.val (.ref ax), .val (.ref aw), .unset, .unset, .unset, .unset, .unset, .unset] [(.ref aw), (.ref aw)])) rfl rfl (hb hby d3_2) _ kt) ?_
  rw [len_of sa1 na1]
  show Ends p e below _ (s₁.setTop (mkF m 3 #[.val (.ref ax), .val (.ref aw), .unset, .unset, .unset, .unset, .unset, .unset] [(.int (5 : Int32)), (.ref aw)]))
  refine Ends.pre (fun tt kt => XS.iconst X0.here hx rfl (hb hby d3_3) kt) ?_
  show Ends p e below _ (s₁.setTop (mkF m 4 #[.val (.ref ax), .val (.ref aw), .unset, .unset, .unset, .unset, .unset, .unset] [(.int (1 : Int32)), (.int (5 : Int32)), (.ref aw)]))
  refine Ends.pre (fun tt kt => XS.isub X0.here hx rfl (hb hby d3_4) rfl kt) ?_
  show Ends p e below _ (s₁.setTop (mkF m 5 #[.val (.ref ax), .val (.ref aw), .unset, .unset, .unset, .unset, .unset, .unset] [(.int ((5 : Int32) - (1 : Int32))), (.ref aw)]))
  obtain ⟨cl2, Ar2, -, sa2, na2, ha2, -⟩ := id V_aw
  have hin2 : ¬ (((5 : Int32) - (1 : Int32)) < 0 ∨ cl2.slots.size ≤ (((5 : Int32) - (1 : Int32))).toNatClampNeg) := inb_of sa2 ⟨by decide, by decide⟩
  refine Ends.pre (fun tt kt => X0.daload hx (j := ((5 : Int32) - (1 : Int32))) (v := (.double u4)) (by rw [e0]; exact Ar2.1) (State.isArrayOf_alike hZ.alike Ar2.2.1) Ar2.2.2 hin2 (Has.at ha2 hin2 rfl) (g := (mkF m 5 #[.val (.ref ax), .val (.ref aw), .unset, .unset, .unset, .unset, .unset, .unset] [(.int ((5 : Int32) - (1 : Int32))), (.ref aw)])) rfl rfl (hb hby d3_5) _ kt) ?_
  show Ends p e below _ (s₁.setTop (mkF m 6 #[.val (.ref ax), .val (.ref aw), .unset, .unset, .unset, .unset, .unset, .unset] [(.double u4)]))
  refine Ends.pre (fun tt kt => XS.dstoreN X0.here hx rfl (hb hby d3_6) rfl (l' := #[.val (.ref ax), .val (.ref aw), .val (.double u4), .second, .unset, .unset, .unset, .unset]) rfl kt) ?_
  show Ends p e below _ (s₁.setTop (mkF m 7 #[.val (.ref ax), .val (.ref aw), .val (.double u4), .second, .unset, .unset, .unset, .unset] []))
  refine Ends.pre (fun tt kt => XS.aloadN X0.here hx rfl (hb hby d3_7) rfl rfl kt) ?_
  show Ends p e below _ (s₁.setTop (mkF m 8 #[.val (.ref ax), .val (.ref aw), .val (.double u4), .second, .unset, .unset, .unset, .unset] [(.ref ax)]))
  refine Ends.pre (fun tt kt => XS.astore X0.here hx rfl (hb hby d3_8) rfl rfl (l' := #[.val (.ref ax), .val (.ref aw), .val (.double u4), .second, .val (.ref ax), .unset, .unset, .unset]) rfl kt) ?_
  show Ends p e below _ (s₁.setTop (mkF m 10 #[.val (.ref ax), .val (.ref aw), .val (.double u4), .second, .val (.ref ax), .unset, .unset, .unset] []))
  refine Ends.pre (fun tt kt => XS.aload X0.here hx rfl (hb hby d3_10) rfl rfl kt) ?_
  show Ends p e below _ (s₁.setTop (mkF m 12 #[.val (.ref ax), .val (.ref aw), .val (.double u4), .second, .val (.ref ax), .unset, .unset, .unset] [(.ref ax)]))
  obtain ⟨cl3, Ar3, -, sa3, na3, -, -⟩ := id V_ax
  refine Ends.pre (fun tt kt => X0.arraylength hx (by rw [e0]; exact Ar3.1) (State.isArrayOf_alike hZ.alike Ar3.2.1) (g := (mkF m 12 #[.val (.ref ax), .val (.ref aw), .val (.double u4), .second, .val (.ref ax), .unset, .unset, .unset] [(.ref ax)])) rfl rfl (hb hby d3_12) _ kt) ?_
  rw [len_of sa3 na3]
  show Ends p e below _ (s₁.setTop (mkF m 13 #[.val (.ref ax), .val (.ref aw), .val (.double u4), .second, .val (.ref ax), .unset, .unset, .unset] [(.int n)]))
  refine Ends.pre (fun tt kt => XS.istore X0.here hx rfl (hb hby d3_13) rfl (l' := #[.val (.ref ax), .val (.ref aw), .val (.double u4), .second, .val (.ref ax), .val (.int n), .unset, .unset]) rfl kt) ?_
  show Ends p e below _ (s₁.setTop (mkF m 15 #[.val (.ref ax), .val (.ref aw), .val (.double u4), .second, .val (.ref ax), .val (.int n), .unset, .unset] []))
  refine Ends.pre (fun tt kt => XS.iconst X0.here hx rfl (hb hby d3_15) kt) ?_
  show Ends p e below _ (s₁.setTop (mkF m 16 #[.val (.ref ax), .val (.ref aw), .val (.double u4), .second, .val (.ref ax), .val (.int n), .unset, .unset] [(.int (0 : Int32))]))
  refine Ends.pre (fun tt kt => XS.istore X0.here hx rfl (hb hby d3_16) rfl (l' := #[.val (.ref ax), .val (.ref aw), .val (.double u4), .second, .val (.ref ax), .val (.int n), .val (.int (0 : Int32)), .unset]) rfl kt) ?_
  show Ends p e below _ (s₁.setTop (mkF m 18 #[.val (.ref ax), .val (.ref aw), .val (.double u4), .second, .val (.ref ax), .val (.int n), .val (.int (0 : Int32)), .unset] []))
  rcases hn with rfl | rfl | rfl | rfl | rfl
  ·
    show Ends p e below _ (s₁.setTop (mkF m 18 #[.val (.ref ax), .val (.ref aw), .val (.double u4), .second, .val (.ref ax), .val (.int (0 : Int32)), .val (.int (0 : Int32)), .unset] []))
    refine Ends.pre (fun tt kt => XS.iload X0.here hx rfl (hb hby d3_18) rfl kt) ?_
    show Ends p e below _ (s₁.setTop (mkF m 20 #[.val (.ref ax), .val (.ref aw), .val (.double u4), .second, .val (.ref ax), .val (.int (0 : Int32)), .val (.int (0 : Int32)), .unset] [(.int (0 : Int32))]))
    refine Ends.pre (fun tt kt => XS.iload X0.here hx rfl (hb hby d3_20) rfl kt) ?_
    show Ends p e below _ (s₁.setTop (mkF m 22 #[.val (.ref ax), .val (.ref aw), .val (.double u4), .second, .val (.ref ax), .val (.int (0 : Int32)), .val (.int (0 : Int32)), .unset] [(.int (0 : Int32)), (.int (0 : Int32))]))
    refine Ends.pre (fun tt kt => XS.icmpYes X0.here hx rfl (pc0 := 22) (pc' := 45) rfl (hb hby d3_22) rfl (flt (by decide)).2.1 (by decide) (by decide) kt) ?_
    show Ends p e below _ (s₁.setTop (mkF m 45 #[.val (.ref ax), .val (.ref aw), .val (.double u4), .second, .val (.ref ax), .val (.int (0 : Int32)), .val (.int (0 : Int32)), .unset] []))
    refine Ends.pre (fun tt kt => XS.dloadN X0.here hx rfl (hb hby d3_45) rfl kt) ?_
    show Ends p e below _ (s₁.setTop (mkF m 46 #[.val (.ref ax), .val (.ref aw), .val (.double u4), .second, .val (.ref ax), .val (.int (0 : Int32)), .val (.int (0 : Int32)), .unset] [(.double u4)]))
    obtain ⟨fs, hr, hrun, hended, hW, hsame⟩ := X0.leave (v := some (.double u4)) (fun h => by rw [Bd.returns] at h; cases h)
    refine ⟨_, _, retOut X0 hx Bd.returns rfl (Or.inr (Or.inr (Or.inl ⟨rfl, rfl, _, rfl⟩))) (hb hby d3_46) hr, hrun, hended, _, _, rfl, ?_, ⟨_, rfl⟩, hW, hsame.mono (by decide) (by decide)⟩
    show Q3 Z _ _ _ _ _ _ _ _ _ _ _ _ _ _ _ _ _ _ h0 n0 _ s₁.heap _
    rw [e0]
    exact ⟨by unfold own_acc; rw [if_pos rfl], N0, rfl⟩
  ·
    show Ends p e below _ (s₁.setTop (mkF m 18 #[.val (.ref ax), .val (.ref aw), .val (.double u4), .second, .val (.ref ax), .val (.int (1 : Int32)), .val (.int (0 : Int32)), .unset] []))
    refine Ends.pre (fun tt kt => XS.iload X0.here hx rfl (hb hby d3_18) rfl kt) ?_
    show Ends p e below _ (s₁.setTop (mkF m 20 #[.val (.ref ax), .val (.ref aw), .val (.double u4), .second, .val (.ref ax), .val (.int (1 : Int32)), .val (.int (0 : Int32)), .unset] [(.int (0 : Int32))]))
    refine Ends.pre (fun tt kt => XS.iload X0.here hx rfl (hb hby d3_20) rfl kt) ?_
    show Ends p e below _ (s₁.setTop (mkF m 22 #[.val (.ref ax), .val (.ref aw), .val (.double u4), .second, .val (.ref ax), .val (.int (1 : Int32)), .val (.int (0 : Int32)), .unset] [(.int (1 : Int32)), (.int (0 : Int32))]))
    refine Ends.pre (fun tt kt => XS.icmpNo X0.here hx rfl (hb hby d3_22) rfl (tlt (by decide)).2.1 kt) ?_
    show Ends p e below _ (s₁.setTop (mkF m 25 #[.val (.ref ax), .val (.ref aw), .val (.double u4), .second, .val (.ref ax), .val (.int (1 : Int32)), .val (.int (0 : Int32)), .unset] []))
    refine Ends.pre (fun tt kt => XS.aload X0.here hx rfl (hb hby d3_25) rfl rfl kt) ?_
    show Ends p e below _ (s₁.setTop (mkF m 27 #[.val (.ref ax), .val (.ref aw), .val (.double u4), .second, .val (.ref ax), .val (.int (1 : Int32)), .val (.int (0 : Int32)), .unset] [(.ref ax)]))
    refine Ends.pre (fun tt kt => XS.iload X0.here hx rfl (hb hby d3_27) rfl kt) ?_
    show Ends p e below _ (s₁.setTop (mkF m 29 #[.val (.ref ax), .val (.ref aw), .val (.double u4), .second, .val (.ref ax), .val (.int (1 : Int32)), .val (.int (0 : Int32)), .unset] [(.int (0 : Int32)), (.ref ax)]))
    obtain ⟨cl4, Ar4, -, sa4, na4, ha4, -⟩ := id V_ax
    have hin4 : ¬ ((0 : Int32) < 0 ∨ cl4.slots.size ≤ ((0 : Int32)).toNatClampNeg) := inb_of sa4 ⟨by decide, by decide⟩
    refine Ends.pre (fun tt kt => X0.iaload hx (j := (0 : Int32)) (v := (.int x0)) (by rw [e0]; exact Ar4.1) (State.isArrayOf_alike hZ.alike Ar4.2.1) Ar4.2.2 hin4 (Has.at ha4 hin4 rfl) (g := (mkF m 29 #[.val (.ref ax), .val (.ref aw), .val (.double u4), .second, .val (.ref ax), .val (.int (1 : Int32)), .val (.int (0 : Int32)), .unset] [(.int (0 : Int32)), (.ref ax)])) rfl rfl (hb hby d3_29) _ kt) ?_
    show Ends p e below _ (s₁.setTop (mkF m 30 #[.val (.ref ax), .val (.ref aw), .val (.double u4), .second, .val (.ref ax), .val (.int (1 : Int32)), .val (.int (0 : Int32)), .unset] [(.int x0)]))
    refine Ends.pre (fun tt kt => XS.istore X0.here hx rfl (hb hby d3_30) rfl (l' := #[.val (.ref ax), .val (.ref aw), .val (.double u4), .second, .val (.ref ax), .val (.int (1 : Int32)), .val (.int (0 : Int32)), .val (.int x0)]) rfl kt) ?_
    show Ends p e below _ (s₁.setTop (mkF m 32 #[.val (.ref ax), .val (.ref aw), .val (.double u4), .second, .val (.ref ax), .val (.int (1 : Int32)), .val (.int (0 : Int32)), .val (.int x0)] []))
    refine Ends.pre (fun tt kt => XS.dloadN X0.here hx rfl (hb hby d3_32) rfl kt) ?_
    show Ends p e below _ (s₁.setTop (mkF m 33 #[.val (.ref ax), .val (.ref aw), .val (.double u4), .second, .val (.ref ax), .val (.int (1 : Int32)), .val (.int (0 : Int32)), .val (.int x0)] [(.double u4)]))
    refine Ends.pre (fun tt kt => XS.aloadN X0.here hx rfl (hb hby d3_33) rfl rfl kt) ?_
    show Ends p e below _ (s₁.setTop (mkF m 34 #[.val (.ref ax), .val (.ref aw), .val (.double u4), .second, .val (.ref ax), .val (.int (1 : Int32)), .val (.int (0 : Int32)), .val (.int x0)] [(.ref aw), (.double u4)]))
    refine Ends.pre (fun tt kt => XS.iload X0.here hx rfl (hb hby d3_34) rfl kt) ?_
    show Ends p e below _ (s₁.setTop (mkF m 36 #[.val (.ref ax), .val (.ref aw), .val (.double u4), .second, .val (.ref ax), .val (.int (1 : Int32)), .val (.int (0 : Int32)), .val (.int x0)] [(.int x0), (.ref aw), (.double u4)]))
    obtain ⟨cl5, Ar5, -, sa5, na5, ha5, -⟩ := id V_aw
    have hin5 : ¬ (x0 < 0 ∨ cl5.slots.size ≤ (x0).toNatClampNeg) := inb_of sa5 he0
    refine Ends.pre (fun tt kt => X0.daload hx (j := x0) (v := (.double g0)) (by rw [e0]; exact Ar5.1) (State.isArrayOf_alike hZ.alike Ar5.2.1) Ar5.2.2 hin5 (Has.at ha5 hin5 hg0) (g := (mkF m 36 #[.val (.ref ax), .val (.ref aw), .val (.double u4), .second, .val (.ref ax), .val (.int (1 : Int32)), .val (.int (0 : Int32)), .val (.int x0)] [(.int x0), (.ref aw), (.double u4)])) rfl rfl (hb hby d3_36) _ kt) ?_
    show Ends p e below _ (s₁.setTop (mkF m 37 #[.val (.ref ax), .val (.ref aw), .val (.double u4), .second, .val (.ref ax), .val (.int (1 : Int32)), .val (.int (0 : Int32)), .val (.int x0)] [(.double g0), (.double u4)]))
    refine Ends.pre (fun tt kt => XS.daddS X0.here hx rfl (v := (FP.dadd u4 g0)) (hb hby d3_37) rfl nn1 rfl kt) ?_
    show Ends p e below _ (s₁.setTop (mkF m 38 #[.val (.ref ax), .val (.ref aw), .val (.double u4), .second, .val (.ref ax), .val (.int (1 : Int32)), .val (.int (0 : Int32)), .val (.int x0)] [(.double (FP.dadd u4 g0))]))
    refine Ends.pre (fun tt kt => XS.dstoreN X0.here hx rfl (hb hby d3_38) rfl (l' := #[.val (.ref ax), .val (.ref aw), .val (.double (FP.dadd u4 g0)), .second, .val (.ref ax), .val (.int (1 : Int32)), .val (.int (0 : Int32)), .val (.int x0)]) rfl kt) ?_
    show Ends p e below _ (s₁.setTop (mkF m 39 #[.val (.ref ax), .val (.ref aw), .val (.double (FP.dadd u4 g0)), .second, .val (.ref ax), .val (.int (1 : Int32)), .val (.int (0 : Int32)), .val (.int x0)] []))
    refine Ends.pre (fun tt kt => XS.iinc X0.here hx rfl (hb hby d3_39) rfl (l' := #[.val (.ref ax), .val (.ref aw), .val (.double (FP.dadd u4 g0)), .second, .val (.ref ax), .val (.int (1 : Int32)), .val (.int ((0 : Int32) + (1 : Int32))), .val (.int x0)]) rfl kt) ?_
    show Ends p e below _ (s₁.setTop (mkF m 42 #[.val (.ref ax), .val (.ref aw), .val (.double (FP.dadd u4 g0)), .second, .val (.ref ax), .val (.int (1 : Int32)), .val (.int ((0 : Int32) + (1 : Int32))), .val (.int x0)] []))
    show Ends p e below _ (s₁.setTop (mkF m 42 #[.val (.ref ax), .val (.ref aw), .val (.double (FP.dadd u4 g0)), .second, .val (.ref ax), .val (.int (1 : Int32)), .val (.int (1 : Int32)), .val (.int x0)] []))
    refine Ends.pre (fun tt kt => XS.goto X0.here hx rfl (pc0 := 42) (pc' := 18) rfl (hb hby d3_42) (by decide) (by decide) kt) ?_
    show Ends p e below _ (s₁.setTop (mkF m 18 #[.val (.ref ax), .val (.ref aw), .val (.double (FP.dadd u4 g0)), .second, .val (.ref ax), .val (.int (1 : Int32)), .val (.int (1 : Int32)), .val (.int x0)] []))
    refine Ends.pre (fun tt kt => XS.iload X0.here hx rfl (hb hby d3_18) rfl kt) ?_
    show Ends p e below _ (s₁.setTop (mkF m 20 #[.val (.ref ax), .val (.ref aw), .val (.double (FP.dadd u4 g0)), .second, .val (.ref ax), .val (.int (1 : Int32)), .val (.int (1 : Int32)), .val (.int x0)] [(.int (1 : Int32))]))
    refine Ends.pre (fun tt kt => XS.iload X0.here hx rfl (hb hby d3_20) rfl kt) ?_
    show Ends p e below _ (s₁.setTop (mkF m 22 #[.val (.ref ax), .val (.ref aw), .val (.double (FP.dadd u4 g0)), .second, .val (.ref ax), .val (.int (1 : Int32)), .val (.int (1 : Int32)), .val (.int x0)] [(.int (1 : Int32)), (.int (1 : Int32))]))
    refine Ends.pre (fun tt kt => XS.icmpYes X0.here hx rfl (pc0 := 22) (pc' := 45) rfl (hb hby d3_22) rfl (flt (by decide)).2.1 (by decide) (by decide) kt) ?_
    show Ends p e below _ (s₁.setTop (mkF m 45 #[.val (.ref ax), .val (.ref aw), .val (.double (FP.dadd u4 g0)), .second, .val (.ref ax), .val (.int (1 : Int32)), .val (.int (1 : Int32)), .val (.int x0)] []))
    refine Ends.pre (fun tt kt => XS.dloadN X0.here hx rfl (hb hby d3_45) rfl kt) ?_
    show Ends p e below _ (s₁.setTop (mkF m 46 #[.val (.ref ax), .val (.ref aw), .val (.double (FP.dadd u4 g0)), .second, .val (.ref ax), .val (.int (1 : Int32)), .val (.int (1 : Int32)), .val (.int x0)] [(.double (FP.dadd u4 g0))]))
    obtain ⟨fs, hr, hrun, hended, hW, hsame⟩ := X0.leave (v := some (.double (FP.dadd u4 g0))) (fun h => by rw [Bd.returns] at h; cases h)
    refine ⟨_, _, retOut X0 hx Bd.returns rfl (Or.inr (Or.inr (Or.inl ⟨rfl, rfl, _, rfl⟩))) (hb hby d3_46) hr, hrun, hended, _, _, rfl, ?_, ⟨_, rfl⟩, hW, hsame.mono (by decide) (by decide)⟩
    show Q3 Z _ _ _ _ _ _ _ _ _ _ _ _ _ _ _ _ _ _ h0 n0 _ s₁.heap _
    rw [e0]
    exact ⟨by unfold own_acc; rw [if_neg (by decide), if_pos rfl], N0, rfl⟩
  ·
    show Ends p e below _ (s₁.setTop (mkF m 18 #[.val (.ref ax), .val (.ref aw), .val (.double u4), .second, .val (.ref ax), .val (.int (2 : Int32)), .val (.int (0 : Int32)), .unset] []))
    refine Ends.pre (fun tt kt => XS.iload X0.here hx rfl (hb hby d3_18) rfl kt) ?_
    show Ends p e below _ (s₁.setTop (mkF m 20 #[.val (.ref ax), .val (.ref aw), .val (.double u4), .second, .val (.ref ax), .val (.int (2 : Int32)), .val (.int (0 : Int32)), .unset] [(.int (0 : Int32))]))
    refine Ends.pre (fun tt kt => XS.iload X0.here hx rfl (hb hby d3_20) rfl kt) ?_
    show Ends p e below _ (s₁.setTop (mkF m 22 #[.val (.ref ax), .val (.ref aw), .val (.double u4), .second, .val (.ref ax), .val (.int (2 : Int32)), .val (.int (0 : Int32)), .unset] [(.int (2 : Int32)), (.int (0 : Int32))]))
    refine Ends.pre (fun tt kt => XS.icmpNo X0.here hx rfl (hb hby d3_22) rfl (tlt (by decide)).2.1 kt) ?_
    show Ends p e below _ (s₁.setTop (mkF m 25 #[.val (.ref ax), .val (.ref aw), .val (.double u4), .second, .val (.ref ax), .val (.int (2 : Int32)), .val (.int (0 : Int32)), .unset] []))
    refine Ends.pre (fun tt kt => XS.aload X0.here hx rfl (hb hby d3_25) rfl rfl kt) ?_
    show Ends p e below _ (s₁.setTop (mkF m 27 #[.val (.ref ax), .val (.ref aw), .val (.double u4), .second, .val (.ref ax), .val (.int (2 : Int32)), .val (.int (0 : Int32)), .unset] [(.ref ax)]))
    refine Ends.pre (fun tt kt => XS.iload X0.here hx rfl (hb hby d3_27) rfl kt) ?_
    show Ends p e below _ (s₁.setTop (mkF m 29 #[.val (.ref ax), .val (.ref aw), .val (.double u4), .second, .val (.ref ax), .val (.int (2 : Int32)), .val (.int (0 : Int32)), .unset] [(.int (0 : Int32)), (.ref ax)]))
    obtain ⟨cl6, Ar6, -, sa6, na6, ha6, -⟩ := id V_ax
    have hin6 : ¬ ((0 : Int32) < 0 ∨ cl6.slots.size ≤ ((0 : Int32)).toNatClampNeg) := inb_of sa6 ⟨by decide, by decide⟩
    refine Ends.pre (fun tt kt => X0.iaload hx (j := (0 : Int32)) (v := (.int x0)) (by rw [e0]; exact Ar6.1) (State.isArrayOf_alike hZ.alike Ar6.2.1) Ar6.2.2 hin6 (Has.at ha6 hin6 rfl) (g := (mkF m 29 #[.val (.ref ax), .val (.ref aw), .val (.double u4), .second, .val (.ref ax), .val (.int (2 : Int32)), .val (.int (0 : Int32)), .unset] [(.int (0 : Int32)), (.ref ax)])) rfl rfl (hb hby d3_29) _ kt) ?_
    show Ends p e below _ (s₁.setTop (mkF m 30 #[.val (.ref ax), .val (.ref aw), .val (.double u4), .second, .val (.ref ax), .val (.int (2 : Int32)), .val (.int (0 : Int32)), .unset] [(.int x0)]))
    refine Ends.pre (fun tt kt => XS.istore X0.here hx rfl (hb hby d3_30) rfl (l' := #[.val (.ref ax), .val (.ref aw), .val (.double u4), .second, .val (.ref ax), .val (.int (2 : Int32)), .val (.int (0 : Int32)), .val (.int x0)]) rfl kt) ?_
    show Ends p e below _ (s₁.setTop (mkF m 32 #[.val (.ref ax), .val (.ref aw), .val (.double u4), .second, .val (.ref ax), .val (.int (2 : Int32)), .val (.int (0 : Int32)), .val (.int x0)] []))
    refine Ends.pre (fun tt kt => XS.dloadN X0.here hx rfl (hb hby d3_32) rfl kt) ?_
    show Ends p e below _ (s₁.setTop (mkF m 33 #[.val (.ref ax), .val (.ref aw), .val (.double u4), .second, .val (.ref ax), .val (.int (2 : Int32)), .val (.int (0 : Int32)), .val (.int x0)] [(.double u4)]))
    refine Ends.pre (fun tt kt => XS.aloadN X0.here hx rfl (hb hby d3_33) rfl rfl kt) ?_
    show Ends p e below _ (s₁.setTop (mkF m 34 #[.val (.ref ax), .val (.ref aw), .val (.double u4), .second, .val (.ref ax), .val (.int (2 : Int32)), .val (.int (0 : Int32)), .val (.int x0)] [(.ref aw), (.double u4)]))
    refine Ends.pre (fun tt kt => XS.iload X0.here hx rfl (hb hby d3_34) rfl kt) ?_
    show Ends p e below _ (s₁.setTop (mkF m 36 #[.val (.ref ax), .val (.ref aw), .val (.double u4), .second, .val (.ref ax), .val (.int (2 : Int32)), .val (.int (0 : Int32)), .val (.int x0)] [(.int x0), (.ref aw), (.double u4)]))
    obtain ⟨cl7, Ar7, -, sa7, na7, ha7, -⟩ := id V_aw
    have hin7 : ¬ (x0 < 0 ∨ cl7.slots.size ≤ (x0).toNatClampNeg) := inb_of sa7 he0
    refine Ends.pre (fun tt kt => X0.daload hx (j := x0) (v := (.double g0)) (by rw [e0]; exact Ar7.1) (State.isArrayOf_alike hZ.alike Ar7.2.1) Ar7.2.2 hin7 (Has.at ha7 hin7 hg0) (g := (mkF m 36 #[.val (.ref ax), .val (.ref aw), .val (.double u4), .second, .val (.ref ax), .val (.int (2 : Int32)), .val (.int (0 : Int32)), .val (.int x0)] [(.int x0), (.ref aw), (.double u4)])) rfl rfl (hb hby d3_36) _ kt) ?_
    show Ends p e below _ (s₁.setTop (mkF m 37 #[.val (.ref ax), .val (.ref aw), .val (.double u4), .second, .val (.ref ax), .val (.int (2 : Int32)), .val (.int (0 : Int32)), .val (.int x0)] [(.double g0), (.double u4)]))
    refine Ends.pre (fun tt kt => XS.daddS X0.here hx rfl (v := (FP.dadd u4 g0)) (hb hby d3_37) rfl nn1 rfl kt) ?_
    show Ends p e below _ (s₁.setTop (mkF m 38 #[.val (.ref ax), .val (.ref aw), .val (.double u4), .second, .val (.ref ax), .val (.int (2 : Int32)), .val (.int (0 : Int32)), .val (.int x0)] [(.double (FP.dadd u4 g0))]))
    refine Ends.pre (fun tt kt => XS.dstoreN X0.here hx rfl (hb hby d3_38) rfl (l' := #[.val (.ref ax), .val (.ref aw), .val (.double (FP.dadd u4 g0)), .second, .val (.ref ax), .val (.int (2 : Int32)), .val (.int (0 : Int32)), .val (.int x0)]) rfl kt) ?_
    show Ends p e below _ (s₁.setTop (mkF m 39 #[.val (.ref ax), .val (.ref aw), .val (.double (FP.dadd u4 g0)), .second, .val (.ref ax), .val (.int (2 : Int32)), .val (.int (0 : Int32)), .val (.int x0)] []))
    refine Ends.pre (fun tt kt => XS.iinc X0.here hx rfl (hb hby d3_39) rfl (l' := #[.val (.ref ax), .val (.ref aw), .val (.double (FP.dadd u4 g0)), .second, .val (.ref ax), .val (.int (2 : Int32)), .val (.int ((0 : Int32) + (1 : Int32))), .val (.int x0)]) rfl kt) ?_
    show Ends p e below _ (s₁.setTop (mkF m 42 #[.val (.ref ax), .val (.ref aw), .val (.double (FP.dadd u4 g0)), .second, .val (.ref ax), .val (.int (2 : Int32)), .val (.int ((0 : Int32) + (1 : Int32))), .val (.int x0)] []))
    show Ends p e below _ (s₁.setTop (mkF m 42 #[.val (.ref ax), .val (.ref aw), .val (.double (FP.dadd u4 g0)), .second, .val (.ref ax), .val (.int (2 : Int32)), .val (.int (1 : Int32)), .val (.int x0)] []))
    refine Ends.pre (fun tt kt => XS.goto X0.here hx rfl (pc0 := 42) (pc' := 18) rfl (hb hby d3_42) (by decide) (by decide) kt) ?_
    show Ends p e below _ (s₁.setTop (mkF m 18 #[.val (.ref ax), .val (.ref aw), .val (.double (FP.dadd u4 g0)), .second, .val (.ref ax), .val (.int (2 : Int32)), .val (.int (1 : Int32)), .val (.int x0)] []))
    refine Ends.pre (fun tt kt => XS.iload X0.here hx rfl (hb hby d3_18) rfl kt) ?_
    show Ends p e below _ (s₁.setTop (mkF m 20 #[.val (.ref ax), .val (.ref aw), .val (.double (FP.dadd u4 g0)), .second, .val (.ref ax), .val (.int (2 : Int32)), .val (.int (1 : Int32)), .val (.int x0)] [(.int (1 : Int32))]))
    refine Ends.pre (fun tt kt => XS.iload X0.here hx rfl (hb hby d3_20) rfl kt) ?_
    show Ends p e below _ (s₁.setTop (mkF m 22 #[.val (.ref ax), .val (.ref aw), .val (.double (FP.dadd u4 g0)), .second, .val (.ref ax), .val (.int (2 : Int32)), .val (.int (1 : Int32)), .val (.int x0)] [(.int (2 : Int32)), (.int (1 : Int32))]))
    refine Ends.pre (fun tt kt => XS.icmpNo X0.here hx rfl (hb hby d3_22) rfl (tlt (by decide)).2.1 kt) ?_
    show Ends p e below _ (s₁.setTop (mkF m 25 #[.val (.ref ax), .val (.ref aw), .val (.double (FP.dadd u4 g0)), .second, .val (.ref ax), .val (.int (2 : Int32)), .val (.int (1 : Int32)), .val (.int x0)] []))
    refine Ends.pre (fun tt kt => XS.aload X0.here hx rfl (hb hby d3_25) rfl rfl kt) ?_
    show Ends p e below _ (s₁.setTop (mkF m 27 #[.val (.ref ax), .val (.ref aw), .val (.double (FP.dadd u4 g0)), .second, .val (.ref ax), .val (.int (2 : Int32)), .val (.int (1 : Int32)), .val (.int x0)] [(.ref ax)]))
    refine Ends.pre (fun tt kt => XS.iload X0.here hx rfl (hb hby d3_27) rfl kt) ?_
    show Ends p e below _ (s₁.setTop (mkF m 29 #[.val (.ref ax), .val (.ref aw), .val (.double (FP.dadd u4 g0)), .second, .val (.ref ax), .val (.int (2 : Int32)), .val (.int (1 : Int32)), .val (.int x0)] [(.int (1 : Int32)), (.ref ax)]))
    obtain ⟨cl8, Ar8, -, sa8, na8, ha8, -⟩ := id V_ax
    have hin8 : ¬ ((1 : Int32) < 0 ∨ cl8.slots.size ≤ ((1 : Int32)).toNatClampNeg) := inb_of sa8 ⟨by decide, by decide⟩
    refine Ends.pre (fun tt kt => X0.iaload hx (j := (1 : Int32)) (v := (.int x1)) (by rw [e0]; exact Ar8.1) (State.isArrayOf_alike hZ.alike Ar8.2.1) Ar8.2.2 hin8 (Has.at ha8 hin8 rfl) (g := (mkF m 29 #[.val (.ref ax), .val (.ref aw), .val (.double (FP.dadd u4 g0)), .second, .val (.ref ax), .val (.int (2 : Int32)), .val (.int (1 : Int32)), .val (.int x0)] [(.int (1 : Int32)), (.ref ax)])) rfl rfl (hb hby d3_29) _ kt) ?_
    show Ends p e below _ (s₁.setTop (mkF m 30 #[.val (.ref ax), .val (.ref aw), .val (.double (FP.dadd u4 g0)), .second, .val (.ref ax), .val (.int (2 : Int32)), .val (.int (1 : Int32)), .val (.int x0)] [(.int x1)]))
    refine Ends.pre (fun tt kt => XS.istore X0.here hx rfl (hb hby d3_30) rfl (l' := #[.val (.ref ax), .val (.ref aw), .val (.double (FP.dadd u4 g0)), .second, .val (.ref ax), .val (.int (2 : Int32)), .val (.int (1 : Int32)), .val (.int x1)]) rfl kt) ?_
    show Ends p e below _ (s₁.setTop (mkF m 32 #[.val (.ref ax), .val (.ref aw), .val (.double (FP.dadd u4 g0)), .second, .val (.ref ax), .val (.int (2 : Int32)), .val (.int (1 : Int32)), .val (.int x1)] []))
    refine Ends.pre (fun tt kt => XS.dloadN X0.here hx rfl (hb hby d3_32) rfl kt) ?_
    show Ends p e below _ (s₁.setTop (mkF m 33 #[.val (.ref ax), .val (.ref aw), .val (.double (FP.dadd u4 g0)), .second, .val (.ref ax), .val (.int (2 : Int32)), .val (.int (1 : Int32)), .val (.int x1)] [(.double (FP.dadd u4 g0))]))
    refine Ends.pre (fun tt kt => XS.aloadN X0.here hx rfl (hb hby d3_33) rfl rfl kt) ?_
    show Ends p e below _ (s₁.setTop (mkF m 34 #[.val (.ref ax), .val (.ref aw), .val (.double (FP.dadd u4 g0)), .second, .val (.ref ax), .val (.int (2 : Int32)), .val (.int (1 : Int32)), .val (.int x1)] [(.ref aw), (.double (FP.dadd u4 g0))]))
    refine Ends.pre (fun tt kt => XS.iload X0.here hx rfl (hb hby d3_34) rfl kt) ?_
    show Ends p e below _ (s₁.setTop (mkF m 36 #[.val (.ref ax), .val (.ref aw), .val (.double (FP.dadd u4 g0)), .second, .val (.ref ax), .val (.int (2 : Int32)), .val (.int (1 : Int32)), .val (.int x1)] [(.int x1), (.ref aw), (.double (FP.dadd u4 g0))]))
    obtain ⟨cl9, Ar9, -, sa9, na9, ha9, -⟩ := id V_aw
    have hin9 : ¬ (x1 < 0 ∨ cl9.slots.size ≤ (x1).toNatClampNeg) := inb_of sa9 he1
    refine Ends.pre (fun tt kt => X0.daload hx (j := x1) (v := (.double g1)) (by rw [e0]; exact Ar9.1) (State.isArrayOf_alike hZ.alike Ar9.2.1) Ar9.2.2 hin9 (Has.at ha9 hin9 hg1) (g := (mkF m 36 #[.val (.ref ax), .val (.ref aw), .val (.double (FP.dadd u4 g0)), .second, .val (.ref ax), .val (.int (2 : Int32)), .val (.int (1 : Int32)), .val (.int x1)] [(.int x1), (.ref aw), (.double (FP.dadd u4 g0))])) rfl rfl (hb hby d3_36) _ kt) ?_
    show Ends p e below _ (s₁.setTop (mkF m 37 #[.val (.ref ax), .val (.ref aw), .val (.double (FP.dadd u4 g0)), .second, .val (.ref ax), .val (.int (2 : Int32)), .val (.int (1 : Int32)), .val (.int x1)] [(.double g1), (.double (FP.dadd u4 g0))]))
    refine Ends.pre (fun tt kt => XS.daddS X0.here hx rfl (v := (FP.dadd (FP.dadd u4 g0) g1)) (hb hby d3_37) rfl nn2 rfl kt) ?_
    show Ends p e below _ (s₁.setTop (mkF m 38 #[.val (.ref ax), .val (.ref aw), .val (.double (FP.dadd u4 g0)), .second, .val (.ref ax), .val (.int (2 : Int32)), .val (.int (1 : Int32)), .val (.int x1)] [(.double (FP.dadd (FP.dadd u4 g0) g1))]))
    refine Ends.pre (fun tt kt => XS.dstoreN X0.here hx rfl (hb hby d3_38) rfl (l' := #[.val (.ref ax), .val (.ref aw), .val (.double (FP.dadd (FP.dadd u4 g0) g1)), .second, .val (.ref ax), .val (.int (2 : Int32)), .val (.int (1 : Int32)), .val (.int x1)]) rfl kt) ?_
    show Ends p e below _ (s₁.setTop (mkF m 39 #[.val (.ref ax), .val (.ref aw), .val (.double (FP.dadd (FP.dadd u4 g0) g1)), .second, .val (.ref ax), .val (.int (2 : Int32)), .val (.int (1 : Int32)), .val (.int x1)] []))
    refine Ends.pre (fun tt kt => XS.iinc X0.here hx rfl (hb hby d3_39) rfl (l' := #[.val (.ref ax), .val (.ref aw), .val (.double (FP.dadd (FP.dadd u4 g0) g1)), .second, .val (.ref ax), .val (.int (2 : Int32)), .val (.int ((1 : Int32) + (1 : Int32))), .val (.int x1)]) rfl kt) ?_
    show Ends p e below _ (s₁.setTop (mkF m 42 #[.val (.ref ax), .val (.ref aw), .val (.double (FP.dadd (FP.dadd u4 g0) g1)), .second, .val (.ref ax), .val (.int (2 : Int32)), .val (.int ((1 : Int32) + (1 : Int32))), .val (.int x1)] []))
    show Ends p e below _ (s₁.setTop (mkF m 42 #[.val (.ref ax), .val (.ref aw), .val (.double (FP.dadd (FP.dadd u4 g0) g1)), .second, .val (.ref ax), .val (.int (2 : Int32)), .val (.int (2 : Int32)), .val (.int x1)] []))
    refine Ends.pre (fun tt kt => XS.goto X0.here hx rfl (pc0 := 42) (pc' := 18) rfl (hb hby d3_42) (by decide) (by decide) kt) ?_
    show Ends p e below _ (s₁.setTop (mkF m 18 #[.val (.ref ax), .val (.ref aw), .val (.double (FP.dadd (FP.dadd u4 g0) g1)), .second, .val (.ref ax), .val (.int (2 : Int32)), .val (.int (2 : Int32)), .val (.int x1)] []))
    refine Ends.pre (fun tt kt => XS.iload X0.here hx rfl (hb hby d3_18) rfl kt) ?_
    show Ends p e below _ (s₁.setTop (mkF m 20 #[.val (.ref ax), .val (.ref aw), .val (.double (FP.dadd (FP.dadd u4 g0) g1)), .second, .val (.ref ax), .val (.int (2 : Int32)), .val (.int (2 : Int32)), .val (.int x1)] [(.int (2 : Int32))]))
    refine Ends.pre (fun tt kt => XS.iload X0.here hx rfl (hb hby d3_20) rfl kt) ?_
    show Ends p e below _ (s₁.setTop (mkF m 22 #[.val (.ref ax), .val (.ref aw), .val (.double (FP.dadd (FP.dadd u4 g0) g1)), .second, .val (.ref ax), .val (.int (2 : Int32)), .val (.int (2 : Int32)), .val (.int x1)] [(.int (2 : Int32)), (.int (2 : Int32))]))
    refine Ends.pre (fun tt kt => XS.icmpYes X0.here hx rfl (pc0 := 22) (pc' := 45) rfl (hb hby d3_22) rfl (flt (by decide)).2.1 (by decide) (by decide) kt) ?_
    show Ends p e below _ (s₁.setTop (mkF m 45 #[.val (.ref ax), .val (.ref aw), .val (.double (FP.dadd (FP.dadd u4 g0) g1)), .second, .val (.ref ax), .val (.int (2 : Int32)), .val (.int (2 : Int32)), .val (.int x1)] []))
    refine Ends.pre (fun tt kt => XS.dloadN X0.here hx rfl (hb hby d3_45) rfl kt) ?_
    show Ends p e below _ (s₁.setTop (mkF m 46 #[.val (.ref ax), .val (.ref aw), .val (.double (FP.dadd (FP.dadd u4 g0) g1)), .second, .val (.ref ax), .val (.int (2 : Int32)), .val (.int (2 : Int32)), .val (.int x1)] [(.double (FP.dadd (FP.dadd u4 g0) g1))]))
    obtain ⟨fs, hr, hrun, hended, hW, hsame⟩ := X0.leave (v := some (.double (FP.dadd (FP.dadd u4 g0) g1))) (fun h => by rw [Bd.returns] at h; cases h)
    refine ⟨_, _, retOut X0 hx Bd.returns rfl (Or.inr (Or.inr (Or.inl ⟨rfl, rfl, _, rfl⟩))) (hb hby d3_46) hr, hrun, hended, _, _, rfl, ?_, ⟨_, rfl⟩, hW, hsame.mono (by decide) (by decide)⟩
    show Q3 Z _ _ _ _ _ _ _ _ _ _ _ _ _ _ _ _ _ _ h0 n0 _ s₁.heap _
    rw [e0]
    exact ⟨by unfold own_acc; rw [if_neg (by decide), if_neg (by decide), if_pos rfl], N0, rfl⟩
  ·
    show Ends p e below _ (s₁.setTop (mkF m 18 #[.val (.ref ax), .val (.ref aw), .val (.double u4), .second, .val (.ref ax), .val (.int (3 : Int32)), .val (.int (0 : Int32)), .unset] []))
    refine Ends.pre (fun tt kt => XS.iload X0.here hx rfl (hb hby d3_18) rfl kt) ?_
    show Ends p e below _ (s₁.setTop (mkF m 20 #[.val (.ref ax), .val (.ref aw), .val (.double u4), .second, .val (.ref ax), .val (.int (3 : Int32)), .val (.int (0 : Int32)), .unset] [(.int (0 : Int32))]))
    refine Ends.pre (fun tt kt => XS.iload X0.here hx rfl (hb hby d3_20) rfl kt) ?_
    show Ends p e below _ (s₁.setTop (mkF m 22 #[.val (.ref ax), .val (.ref aw), .val (.double u4), .second, .val (.ref ax), .val (.int (3 : Int32)), .val (.int (0 : Int32)), .unset] [(.int (3 : Int32)), (.int (0 : Int32))]))
    refine Ends.pre (fun tt kt => XS.icmpNo X0.here hx rfl (hb hby d3_22) rfl (tlt (by decide)).2.1 kt) ?_
    show Ends p e below _ (s₁.setTop (mkF m 25 #[.val (.ref ax), .val (.ref aw), .val (.double u4), .second, .val (.ref ax), .val (.int (3 : Int32)), .val (.int (0 : Int32)), .unset] []))
    refine Ends.pre (fun tt kt => XS.aload X0.here hx rfl (hb hby d3_25) rfl rfl kt) ?_
    show Ends p e below _ (s₁.setTop (mkF m 27 #[.val (.ref ax), .val (.ref aw), .val (.double u4), .second, .val (.ref ax), .val (.int (3 : Int32)), .val (.int (0 : Int32)), .unset] [(.ref ax)]))
    refine Ends.pre (fun tt kt => XS.iload X0.here hx rfl (hb hby d3_27) rfl kt) ?_
    show Ends p e below _ (s₁.setTop (mkF m 29 #[.val (.ref ax), .val (.ref aw), .val (.double u4), .second, .val (.ref ax), .val (.int (3 : Int32)), .val (.int (0 : Int32)), .unset] [(.int (0 : Int32)), (.ref ax)]))
    obtain ⟨cl10, Ar10, -, sa10, na10, ha10, -⟩ := id V_ax
    have hin10 : ¬ ((0 : Int32) < 0 ∨ cl10.slots.size ≤ ((0 : Int32)).toNatClampNeg) := inb_of sa10 ⟨by decide, by decide⟩
    refine Ends.pre (fun tt kt => X0.iaload hx (j := (0 : Int32)) (v := (.int x0)) (by rw [e0]; exact Ar10.1) (State.isArrayOf_alike hZ.alike Ar10.2.1) Ar10.2.2 hin10 (Has.at ha10 hin10 rfl) (g := (mkF m 29 #[.val (.ref ax), .val (.ref aw), .val (.double u4), .second, .val (.ref ax), .val (.int (3 : Int32)), .val (.int (0 : Int32)), .unset] [(.int (0 : Int32)), (.ref ax)])) rfl rfl (hb hby d3_29) _ kt) ?_
    show Ends p e below _ (s₁.setTop (mkF m 30 #[.val (.ref ax), .val (.ref aw), .val (.double u4), .second, .val (.ref ax), .val (.int (3 : Int32)), .val (.int (0 : Int32)), .unset] [(.int x0)]))
    refine Ends.pre (fun tt kt => XS.istore X0.here hx rfl (hb hby d3_30) rfl (l' := #[.val (.ref ax), .val (.ref aw), .val (.double u4), .second, .val (.ref ax), .val (.int (3 : Int32)), .val (.int (0 : Int32)), .val (.int x0)]) rfl kt) ?_
    show Ends p e below _ (s₁.setTop (mkF m 32 #[.val (.ref ax), .val (.ref aw), .val (.double u4), .second, .val (.ref ax), .val (.int (3 : Int32)), .val (.int (0 : Int32)), .val (.int x0)] []))
    refine Ends.pre (fun tt kt => XS.dloadN X0.here hx rfl (hb hby d3_32) rfl kt) ?_
    show Ends p e below _ (s₁.setTop (mkF m 33 #[.val (.ref ax), .val (.ref aw), .val (.double u4), .second, .val (.ref ax), .val (.int (3 : Int32)), .val (.int (0 : Int32)), .val (.int x0)] [(.double u4)]))
    refine Ends.pre (fun tt kt => XS.aloadN X0.here hx rfl (hb hby d3_33) rfl rfl kt) ?_
    show Ends p e below _ (s₁.setTop (mkF m 34 #[.val (.ref ax), .val (.ref aw), .val (.double u4), .second, .val (.ref ax), .val (.int (3 : Int32)), .val (.int (0 : Int32)), .val (.int x0)] [(.ref aw), (.double u4)]))
    refine Ends.pre (fun tt kt => XS.iload X0.here hx rfl (hb hby d3_34) rfl kt) ?_
    show Ends p e below _ (s₁.setTop (mkF m 36 #[.val (.ref ax), .val (.ref aw), .val (.double u4), .second, .val (.ref ax), .val (.int (3 : Int32)), .val (.int (0 : Int32)), .val (.int x0)] [(.int x0), (.ref aw), (.double u4)]))
    obtain ⟨cl11, Ar11, -, sa11, na11, ha11, -⟩ := id V_aw
    have hin11 : ¬ (x0 < 0 ∨ cl11.slots.size ≤ (x0).toNatClampNeg) := inb_of sa11 he0
    refine Ends.pre (fun tt kt => X0.daload hx (j := x0) (v := (.double g0)) (by rw [e0]; exact Ar11.1) (State.isArrayOf_alike hZ.alike Ar11.2.1) Ar11.2.2 hin11 (Has.at ha11 hin11 hg0) (g := (mkF m 36 #[.val (.ref ax), .val (.ref aw), .val (.double u4), .second, .val (.ref ax), .val (.int (3 : Int32)), .val (.int (0 : Int32)), .val (.int x0)] [(.int x0), (.ref aw), (.double u4)])) rfl rfl (hb hby d3_36) _ kt) ?_
    show Ends p e below _ (s₁.setTop (mkF m 37 #[.val (.ref ax), .val (.ref aw), .val (.double u4), .second, .val (.ref ax), .val (.int (3 : Int32)), .val (.int (0 : Int32)), .val (.int x0)] [(.double g0), (.double u4)]))
    refine Ends.pre (fun tt kt => XS.daddS X0.here hx rfl (v := (FP.dadd u4 g0)) (hb hby d3_37) rfl nn1 rfl kt) ?_
    show Ends p e below _ (s₁.setTop (mkF m 38 #[.val (.ref ax), .val (.ref aw), .val (.double u4), .second, .val (.ref ax), .val (.int (3 : Int32)), .val (.int (0 : Int32)), .val (.int x0)] [(.double (FP.dadd u4 g0))]))
    refine Ends.pre (fun tt kt => XS.dstoreN X0.here hx rfl (hb hby d3_38) rfl (l' := #[.val (.ref ax), .val (.ref aw), .val (.double (FP.dadd u4 g0)), .second, .val (.ref ax), .val (.int (3 : Int32)), .val (.int (0 : Int32)), .val (.int x0)]) rfl kt) ?_
    show Ends p e below _ (s₁.setTop (mkF m 39 #[.val (.ref ax), .val (.ref aw), .val (.double (FP.dadd u4 g0)), .second, .val (.ref ax), .val (.int (3 : Int32)), .val (.int (0 : Int32)), .val (.int x0)] []))
    refine Ends.pre (fun tt kt => XS.iinc X0.here hx rfl (hb hby d3_39) rfl (l' := #[.val (.ref ax), .val (.ref aw), .val (.double (FP.dadd u4 g0)), .second, .val (.ref ax), .val (.int (3 : Int32)), .val (.int ((0 : Int32) + (1 : Int32))), .val (.int x0)]) rfl kt) ?_
    show Ends p e below _ (s₁.setTop (mkF m 42 #[.val (.ref ax), .val (.ref aw), .val (.double (FP.dadd u4 g0)), .second, .val (.ref ax), .val (.int (3 : Int32)), .val (.int ((0 : Int32) + (1 : Int32))), .val (.int x0)] []))
    show Ends p e below _ (s₁.setTop (mkF m 42 #[.val (.ref ax), .val (.ref aw), .val (.double (FP.dadd u4 g0)), .second, .val (.ref ax), .val (.int (3 : Int32)), .val (.int (1 : Int32)), .val (.int x0)] []))
    refine Ends.pre (fun tt kt => XS.goto X0.here hx rfl (pc0 := 42) (pc' := 18) rfl (hb hby d3_42) (by decide) (by decide) kt) ?_
    show Ends p e below _ (s₁.setTop (mkF m 18 #[.val (.ref ax), .val (.ref aw), .val (.double (FP.dadd u4 g0)), .second, .val (.ref ax), .val (.int (3 : Int32)), .val (.int (1 : Int32)), .val (.int x0)] []))
    refine Ends.pre (fun tt kt => XS.iload X0.here hx rfl (hb hby d3_18) rfl kt) ?_
    show Ends p e below _ (s₁.setTop (mkF m 20 #[.val (.ref ax), .val (.ref aw), .val (.double (FP.dadd u4 g0)), .second, .val (.ref ax), .val (.int (3 : Int32)), .val (.int (1 : Int32)), .val (.int x0)] [(.int (1 : Int32))]))
    refine Ends.pre (fun tt kt => XS.iload X0.here hx rfl (hb hby d3_20) rfl kt) ?_
    show Ends p e below _ (s₁.setTop (mkF m 22 #[.val (.ref ax), .val (.ref aw), .val (.double (FP.dadd u4 g0)), .second, .val (.ref ax), .val (.int (3 : Int32)), .val (.int (1 : Int32)), .val (.int x0)] [(.int (3 : Int32)), (.int (1 : Int32))]))
    refine Ends.pre (fun tt kt => XS.icmpNo X0.here hx rfl (hb hby d3_22) rfl (tlt (by decide)).2.1 kt) ?_
    show Ends p e below _ (s₁.setTop (mkF m 25 #[.val (.ref ax), .val (.ref aw), .val (.double (FP.dadd u4 g0)), .second, .val (.ref ax), .val (.int (3 : Int32)), .val (.int (1 : Int32)), .val (.int x0)] []))
    refine Ends.pre (fun tt kt => XS.aload X0.here hx rfl (hb hby d3_25) rfl rfl kt) ?_
    show Ends p e below _ (s₁.setTop (mkF m 27 #[.val (.ref ax), .val (.ref aw), .val (.double (FP.dadd u4 g0)), .second, .val (.ref ax), .val (.int (3 : Int32)), .val (.int (1 : Int32)), .val (.int x0)] [(.ref ax)]))
    refine Ends.pre (fun tt kt => XS.iload X0.here hx rfl (hb hby d3_27) rfl kt) ?_
    show Ends p e below _ (s₁.setTop (mkF m 29 #[.val (.ref ax), .val (.ref aw), .val (.double (FP.dadd u4 g0)), .second, .val (.ref ax), .val (.int (3 : Int32)), .val (.int (1 : Int32)), .val (.int x0)] [(.int (1 : Int32)), (.ref ax)]))
    obtain ⟨cl12, Ar12, -, sa12, na12, ha12, -⟩ := id V_ax
    have hin12 : ¬ ((1 : Int32) < 0 ∨ cl12.slots.size ≤ ((1 : Int32)).toNatClampNeg) := inb_of sa12 ⟨by decide, by decide⟩
    refine Ends.pre (fun tt kt => X0.iaload hx (j := (1 : Int32)) (v := (.int x1)) (by rw [e0]; exact Ar12.1) (State.isArrayOf_alike hZ.alike Ar12.2.1) Ar12.2.2 hin12 (Has.at ha12 hin12 rfl) (g := (mkF m 29 #[.val (.ref ax), .val (.ref aw), .val (.double (FP.dadd u4 g0)), .second, .val (.ref ax), .val (.int (3 : Int32)), .val (.int (1 : Int32)), .val (.int x0)] [(.int (1 : Int32)), (.ref ax)])) rfl rfl (hb hby d3_29) _ kt) ?_
    show Ends p e below _ (s₁.setTop (mkF m 30 #[.val (.ref ax), .val (.ref aw), .val (.double (FP.dadd u4 g0)), .second, .val (.ref ax), .val (.int (3 : Int32)), .val (.int (1 : Int32)), .val (.int x0)] [(.int x1)]))
    refine Ends.pre (fun tt kt => XS.istore X0.here hx rfl (hb hby d3_30) rfl (l' := #[.val (.ref ax), .val (.ref aw), .val (.double (FP.dadd u4 g0)), .second, .val (.ref ax), .val (.int (3 : Int32)), .val (.int (1 : Int32)), .val (.int x1)]) rfl kt) ?_
    show Ends p e below _ (s₁.setTop (mkF m 32 #[.val (.ref ax), .val (.ref aw), .val (.double (FP.dadd u4 g0)), .second, .val (.ref ax), .val (.int (3 : Int32)), .val (.int (1 : Int32)), .val (.int x1)] []))
    refine Ends.pre (fun tt kt => XS.dloadN X0.here hx rfl (hb hby d3_32) rfl kt) ?_
    show Ends p e below _ (s₁.setTop (mkF m 33 #[.val (.ref ax), .val (.ref aw), .val (.double (FP.dadd u4 g0)), .second, .val (.ref ax), .val (.int (3 : Int32)), .val (.int (1 : Int32)), .val (.int x1)] [(.double (FP.dadd u4 g0))]))
    refine Ends.pre (fun tt kt => XS.aloadN X0.here hx rfl (hb hby d3_33) rfl rfl kt) ?_
    show Ends p e below _ (s₁.setTop (mkF m 34 #[.val (.ref ax), .val (.ref aw), .val (.double (FP.dadd u4 g0)), .second, .val (.ref ax), .val (.int (3 : Int32)), .val (.int (1 : Int32)), .val (.int x1)] [(.ref aw), (.double (FP.dadd u4 g0))]))
    refine Ends.pre (fun tt kt => XS.iload X0.here hx rfl (hb hby d3_34) rfl kt) ?_
    show Ends p e below _ (s₁.setTop (mkF m 36 #[.val (.ref ax), .val (.ref aw), .val (.double (FP.dadd u4 g0)), .second, .val (.ref ax), .val (.int (3 : Int32)), .val (.int (1 : Int32)), .val (.int x1)] [(.int x1), (.ref aw), (.double (FP.dadd u4 g0))]))
    obtain ⟨cl13, Ar13, -, sa13, na13, ha13, -⟩ := id V_aw
    have hin13 : ¬ (x1 < 0 ∨ cl13.slots.size ≤ (x1).toNatClampNeg) := inb_of sa13 he1
    refine Ends.pre (fun tt kt => X0.daload hx (j := x1) (v := (.double g1)) (by rw [e0]; exact Ar13.1) (State.isArrayOf_alike hZ.alike Ar13.2.1) Ar13.2.2 hin13 (Has.at ha13 hin13 hg1) (g := (mkF m 36 #[.val (.ref ax), .val (.ref aw), .val (.double (FP.dadd u4 g0)), .second, .val (.ref ax), .val (.int (3 : Int32)), .val (.int (1 : Int32)), .val (.int x1)] [(.int x1), (.ref aw), (.double (FP.dadd u4 g0))])) rfl rfl (hb hby d3_36) _ kt) ?_
    show Ends p e below _ (s₁.setTop (mkF m 37 #[.val (.ref ax), .val (.ref aw), .val (.double (FP.dadd u4 g0)), .second, .val (.ref ax), .val (.int (3 : Int32)), .val (.int (1 : Int32)), .val (.int x1)] [(.double g1), (.double (FP.dadd u4 g0))]))
    refine Ends.pre (fun tt kt => XS.daddS X0.here hx rfl (v := (FP.dadd (FP.dadd u4 g0) g1)) (hb hby d3_37) rfl nn2 rfl kt) ?_
    show Ends p e below _ (s₁.setTop (mkF m 38 #[.val (.ref ax), .val (.ref aw), .val (.double (FP.dadd u4 g0)), .second, .val (.ref ax), .val (.int (3 : Int32)), .val (.int (1 : Int32)), .val (.int x1)] [(.double (FP.dadd (FP.dadd u4 g0) g1))]))
    refine Ends.pre (fun tt kt => XS.dstoreN X0.here hx rfl (hb hby d3_38) rfl (l' := #[.val (.ref ax), .val (.ref aw), .val (.double (FP.dadd (FP.dadd u4 g0) g1)), .second, .val (.ref ax), .val (.int (3 : Int32)), .val (.int (1 : Int32)), .val (.int x1)]) rfl kt) ?_
    show Ends p e below _ (s₁.setTop (mkF m 39 #[.val (.ref ax), .val (.ref aw), .val (.double (FP.dadd (FP.dadd u4 g0) g1)), .second, .val (.ref ax), .val (.int (3 : Int32)), .val (.int (1 : Int32)), .val (.int x1)] []))
    refine Ends.pre (fun tt kt => XS.iinc X0.here hx rfl (hb hby d3_39) rfl (l' := #[.val (.ref ax), .val (.ref aw), .val (.double (FP.dadd (FP.dadd u4 g0) g1)), .second, .val (.ref ax), .val (.int (3 : Int32)), .val (.int ((1 : Int32) + (1 : Int32))), .val (.int x1)]) rfl kt) ?_
    show Ends p e below _ (s₁.setTop (mkF m 42 #[.val (.ref ax), .val (.ref aw), .val (.double (FP.dadd (FP.dadd u4 g0) g1)), .second, .val (.ref ax), .val (.int (3 : Int32)), .val (.int ((1 : Int32) + (1 : Int32))), .val (.int x1)] []))
    show Ends p e below _ (s₁.setTop (mkF m 42 #[.val (.ref ax), .val (.ref aw), .val (.double (FP.dadd (FP.dadd u4 g0) g1)), .second, .val (.ref ax), .val (.int (3 : Int32)), .val (.int (2 : Int32)), .val (.int x1)] []))
    refine Ends.pre (fun tt kt => XS.goto X0.here hx rfl (pc0 := 42) (pc' := 18) rfl (hb hby d3_42) (by decide) (by decide) kt) ?_
    show Ends p e below _ (s₁.setTop (mkF m 18 #[.val (.ref ax), .val (.ref aw), .val (.double (FP.dadd (FP.dadd u4 g0) g1)), .second, .val (.ref ax), .val (.int (3 : Int32)), .val (.int (2 : Int32)), .val (.int x1)] []))
    refine Ends.pre (fun tt kt => XS.iload X0.here hx rfl (hb hby d3_18) rfl kt) ?_
    show Ends p e below _ (s₁.setTop (mkF m 20 #[.val (.ref ax), .val (.ref aw), .val (.double (FP.dadd (FP.dadd u4 g0) g1)), .second, .val (.ref ax), .val (.int (3 : Int32)), .val (.int (2 : Int32)), .val (.int x1)] [(.int (2 : Int32))]))
    refine Ends.pre (fun tt kt => XS.iload X0.here hx rfl (hb hby d3_20) rfl kt) ?_
    show Ends p e below _ (s₁.setTop (mkF m 22 #[.val (.ref ax), .val (.ref aw), .val (.double (FP.dadd (FP.dadd u4 g0) g1)), .second, .val (.ref ax), .val (.int (3 : Int32)), .val (.int (2 : Int32)), .val (.int x1)] [(.int (3 : Int32)), (.int (2 : Int32))]))
    refine Ends.pre (fun tt kt => XS.icmpNo X0.here hx rfl (hb hby d3_22) rfl (tlt (by decide)).2.1 kt) ?_
    show Ends p e below _ (s₁.setTop (mkF m 25 #[.val (.ref ax), .val (.ref aw), .val (.double (FP.dadd (FP.dadd u4 g0) g1)), .second, .val (.ref ax), .val (.int (3 : Int32)), .val (.int (2 : Int32)), .val (.int x1)] []))
    refine Ends.pre (fun tt kt => XS.aload X0.here hx rfl (hb hby d3_25) rfl rfl kt) ?_
    show Ends p e below _ (s₁.setTop (mkF m 27 #[.val (.ref ax), .val (.ref aw), .val (.double (FP.dadd (FP.dadd u4 g0) g1)), .second, .val (.ref ax), .val (.int (3 : Int32)), .val (.int (2 : Int32)), .val (.int x1)] [(.ref ax)]))
    refine Ends.pre (fun tt kt => XS.iload X0.here hx rfl (hb hby d3_27) rfl kt) ?_
    show Ends p e below _ (s₁.setTop (mkF m 29 #[.val (.ref ax), .val (.ref aw), .val (.double (FP.dadd (FP.dadd u4 g0) g1)), .second, .val (.ref ax), .val (.int (3 : Int32)), .val (.int (2 : Int32)), .val (.int x1)] [(.int (2 : Int32)), (.ref ax)]))
    obtain ⟨cl14, Ar14, -, sa14, na14, ha14, -⟩ := id V_ax
    have hin14 : ¬ ((2 : Int32) < 0 ∨ cl14.slots.size ≤ ((2 : Int32)).toNatClampNeg) := inb_of sa14 ⟨by decide, by decide⟩
    refine Ends.pre (fun tt kt => X0.iaload hx (j := (2 : Int32)) (v := (.int x2)) (by rw [e0]; exact Ar14.1) (State.isArrayOf_alike hZ.alike Ar14.2.1) Ar14.2.2 hin14 (Has.at ha14 hin14 rfl) (g := (mkF m 29 #[.val (.ref ax), .val (.ref aw), .val (.double (FP.dadd (FP.dadd u4 g0) g1)), .second, .val (.ref ax), .val (.int (3 : Int32)), .val (.int (2 : Int32)), .val (.int x1)] [(.int (2 : Int32)), (.ref ax)])) rfl rfl (hb hby d3_29) _ kt) ?_
    show Ends p e below _ (s₁.setTop (mkF m 30 #[.val (.ref ax), .val (.ref aw), .val (.double (FP.dadd (FP.dadd u4 g0) g1)), .second, .val (.ref ax), .val (.int (3 : Int32)), .val (.int (2 : Int32)), .val (.int x1)] [(.int x2)]))
    refine Ends.pre (fun tt kt => XS.istore X0.here hx rfl (hb hby d3_30) rfl (l' := #[.val (.ref ax), .val (.ref aw), .val (.double (FP.dadd (FP.dadd u4 g0) g1)), .second, .val (.ref ax), .val (.int (3 : Int32)), .val (.int (2 : Int32)), .val (.int x2)]) rfl kt) ?_
    show Ends p e below _ (s₁.setTop (mkF m 32 #[.val (.ref ax), .val (.ref aw), .val (.double (FP.dadd (FP.dadd u4 g0) g1)), .second, .val (.ref ax), .val (.int (3 : Int32)), .val (.int (2 : Int32)), .val (.int x2)] []))
    refine Ends.pre (fun tt kt => XS.dloadN X0.here hx rfl (hb hby d3_32) rfl kt) ?_
    show Ends p e below _ (s₁.setTop (mkF m 33 #[.val (.ref ax), .val (.ref aw), .val (.double (FP.dadd (FP.dadd u4 g0) g1)), .second, .val (.ref ax), .val (.int (3 : Int32)), .val (.int (2 : Int32)), .val (.int x2)] [(.double (FP.dadd (FP.dadd u4 g0) g1))]))
    refine Ends.pre (fun tt kt => XS.aloadN X0.here hx rfl (hb hby d3_33) rfl rfl kt) ?_
    show Ends p e below _ (s₁.setTop (mkF m 34 #[.val (.ref ax), .val (.ref aw), .val (.double (FP.dadd (FP.dadd u4 g0) g1)), .second, .val (.ref ax), .val (.int (3 : Int32)), .val (.int (2 : Int32)), .val (.int x2)] [(.ref aw), (.double (FP.dadd (FP.dadd u4 g0) g1))]))
    refine Ends.pre (fun tt kt => XS.iload X0.here hx rfl (hb hby d3_34) rfl kt) ?_
    show Ends p e below _ (s₁.setTop (mkF m 36 #[.val (.ref ax), .val (.ref aw), .val (.double (FP.dadd (FP.dadd u4 g0) g1)), .second, .val (.ref ax), .val (.int (3 : Int32)), .val (.int (2 : Int32)), .val (.int x2)] [(.int x2), (.ref aw), (.double (FP.dadd (FP.dadd u4 g0) g1))]))
    obtain ⟨cl15, Ar15, -, sa15, na15, ha15, -⟩ := id V_aw
    have hin15 : ¬ (x2 < 0 ∨ cl15.slots.size ≤ (x2).toNatClampNeg) := inb_of sa15 he2
    refine Ends.pre (fun tt kt => X0.daload hx (j := x2) (v := (.double g2)) (by rw [e0]; exact Ar15.1) (State.isArrayOf_alike hZ.alike Ar15.2.1) Ar15.2.2 hin15 (Has.at ha15 hin15 hg2) (g := (mkF m 36 #[.val (.ref ax), .val (.ref aw), .val (.double (FP.dadd (FP.dadd u4 g0) g1)), .second, .val (.ref ax), .val (.int (3 : Int32)), .val (.int (2 : Int32)), .val (.int x2)] [(.int x2), (.ref aw), (.double (FP.dadd (FP.dadd u4 g0) g1))])) rfl rfl (hb hby d3_36) _ kt) ?_
    show Ends p e below _ (s₁.setTop (mkF m 37 #[.val (.ref ax), .val (.ref aw), .val (.double (FP.dadd (FP.dadd u4 g0) g1)), .second, .val (.ref ax), .val (.int (3 : Int32)), .val (.int (2 : Int32)), .val (.int x2)] [(.double g2), (.double (FP.dadd (FP.dadd u4 g0) g1))]))
    refine Ends.pre (fun tt kt => XS.daddS X0.here hx rfl (v := (FP.dadd (FP.dadd (FP.dadd u4 g0) g1) g2)) (hb hby d3_37) rfl nn3 rfl kt) ?_
    show Ends p e below _ (s₁.setTop (mkF m 38 #[.val (.ref ax), .val (.ref aw), .val (.double (FP.dadd (FP.dadd u4 g0) g1)), .second, .val (.ref ax), .val (.int (3 : Int32)), .val (.int (2 : Int32)), .val (.int x2)] [(.double (FP.dadd (FP.dadd (FP.dadd u4 g0) g1) g2))]))
    refine Ends.pre (fun tt kt => XS.dstoreN X0.here hx rfl (hb hby d3_38) rfl (l' := #[.val (.ref ax), .val (.ref aw), .val (.double (FP.dadd (FP.dadd (FP.dadd u4 g0) g1) g2)), .second, .val (.ref ax), .val (.int (3 : Int32)), .val (.int (2 : Int32)), .val (.int x2)]) rfl kt) ?_
    show Ends p e below _ (s₁.setTop (mkF m 39 #[.val (.ref ax), .val (.ref aw), .val (.double (FP.dadd (FP.dadd (FP.dadd u4 g0) g1) g2)), .second, .val (.ref ax), .val (.int (3 : Int32)), .val (.int (2 : Int32)), .val (.int x2)] []))
    refine Ends.pre (fun tt kt => XS.iinc X0.here hx rfl (hb hby d3_39) rfl (l' := #[.val (.ref ax), .val (.ref aw), .val (.double (FP.dadd (FP.dadd (FP.dadd u4 g0) g1) g2)), .second, .val (.ref ax), .val (.int (3 : Int32)), .val (.int ((2 : Int32) + (1 : Int32))), .val (.int x2)]) rfl kt) ?_
    show Ends p e below _ (s₁.setTop (mkF m 42 #[.val (.ref ax), .val (.ref aw), .val (.double (FP.dadd (FP.dadd (FP.dadd u4 g0) g1) g2)), .second, .val (.ref ax), .val (.int (3 : Int32)), .val (.int ((2 : Int32) + (1 : Int32))), .val (.int x2)] []))
    show Ends p e below _ (s₁.setTop (mkF m 42 #[.val (.ref ax), .val (.ref aw), .val (.double (FP.dadd (FP.dadd (FP.dadd u4 g0) g1) g2)), .second, .val (.ref ax), .val (.int (3 : Int32)), .val (.int (3 : Int32)), .val (.int x2)] []))
    refine Ends.pre (fun tt kt => XS.goto X0.here hx rfl (pc0 := 42) (pc' := 18) rfl (hb hby d3_42) (by decide) (by decide) kt) ?_
    show Ends p e below _ (s₁.setTop (mkF m 18 #[.val (.ref ax), .val (.ref aw), .val (.double (FP.dadd (FP.dadd (FP.dadd u4 g0) g1) g2)), .second, .val (.ref ax), .val (.int (3 : Int32)), .val (.int (3 : Int32)), .val (.int x2)] []))
    refine Ends.pre (fun tt kt => XS.iload X0.here hx rfl (hb hby d3_18) rfl kt) ?_
    show Ends p e below _ (s₁.setTop (mkF m 20 #[.val (.ref ax), .val (.ref aw), .val (.double (FP.dadd (FP.dadd (FP.dadd u4 g0) g1) g2)), .second, .val (.ref ax), .val (.int (3 : Int32)), .val (.int (3 : Int32)), .val (.int x2)] [(.int (3 : Int32))]))
    refine Ends.pre (fun tt kt => XS.iload X0.here hx rfl (hb hby d3_20) rfl kt) ?_
    show Ends p e below _ (s₁.setTop (mkF m 22 #[.val (.ref ax), .val (.ref aw), .val (.double (FP.dadd (FP.dadd (FP.dadd u4 g0) g1) g2)), .second, .val (.ref ax), .val (.int (3 : Int32)), .val (.int (3 : Int32)), .val (.int x2)] [(.int (3 : Int32)), (.int (3 : Int32))]))
    refine Ends.pre (fun tt kt => XS.icmpYes X0.here hx rfl (pc0 := 22) (pc' := 45) rfl (hb hby d3_22) rfl (flt (by decide)).2.1 (by decide) (by decide) kt) ?_
    show Ends p e below _ (s₁.setTop (mkF m 45 #[.val (.ref ax), .val (.ref aw), .val (.double (FP.dadd (FP.dadd (FP.dadd u4 g0) g1) g2)), .second, .val (.ref ax), .val (.int (3 : Int32)), .val (.int (3 : Int32)), .val (.int x2)] []))
    refine Ends.pre (fun tt kt => XS.dloadN X0.here hx rfl (hb hby d3_45) rfl kt) ?_
    show Ends p e below _ (s₁.setTop (mkF m 46 #[.val (.ref ax), .val (.ref aw), .val (.double (FP.dadd (FP.dadd (FP.dadd u4 g0) g1) g2)), .second, .val (.ref ax), .val (.int (3 : Int32)), .val (.int (3 : Int32)), .val (.int x2)] [(.double (FP.dadd (FP.dadd (FP.dadd u4 g0) g1) g2))]))
    obtain ⟨fs, hr, hrun, hended, hW, hsame⟩ := X0.leave (v := some (.double (FP.dadd (FP.dadd (FP.dadd u4 g0) g1) g2))) (fun h => by rw [Bd.returns] at h; cases h)
    refine ⟨_, _, retOut X0 hx Bd.returns rfl (Or.inr (Or.inr (Or.inl ⟨rfl, rfl, _, rfl⟩))) (hb hby d3_46) hr, hrun, hended, _, _, rfl, ?_, ⟨_, rfl⟩, hW, hsame.mono (by decide) (by decide)⟩
    show Q3 Z _ _ _ _ _ _ _ _ _ _ _ _ _ _ _ _ _ _ h0 n0 _ s₁.heap _
    rw [e0]
    exact ⟨by unfold own_acc; rw [if_neg (by decide), if_neg (by decide), if_neg (by decide), if_pos rfl], N0, rfl⟩
  ·
    show Ends p e below _ (s₁.setTop (mkF m 18 #[.val (.ref ax), .val (.ref aw), .val (.double u4), .second, .val (.ref ax), .val (.int (4 : Int32)), .val (.int (0 : Int32)), .unset] []))
    refine Ends.pre (fun tt kt => XS.iload X0.here hx rfl (hb hby d3_18) rfl kt) ?_
    show Ends p e below _ (s₁.setTop (mkF m 20 #[.val (.ref ax), .val (.ref aw), .val (.double u4), .second, .val (.ref ax), .val (.int (4 : Int32)), .val (.int (0 : Int32)), .unset] [(.int (0 : Int32))]))
    refine Ends.pre (fun tt kt => XS.iload X0.here hx rfl (hb hby d3_20) rfl kt) ?_
    show Ends p e below _ (s₁.setTop (mkF m 22 #[.val (.ref ax), .val (.ref aw), .val (.double u4), .second, .val (.ref ax), .val (.int (4 : Int32)), .val (.int (0 : Int32)), .unset] [(.int (4 : Int32)), (.int (0 : Int32))]))
    refine Ends.pre (fun tt kt => XS.icmpNo X0.here hx rfl (hb hby d3_22) rfl (tlt (by decide)).2.1 kt) ?_
    show Ends p e below _ (s₁.setTop (mkF m 25 #[.val (.ref ax), .val (.ref aw), .val (.double u4), .second, .val (.ref ax), .val (.int (4 : Int32)), .val (.int (0 : Int32)), .unset] []))
    refine Ends.pre (fun tt kt => XS.aload X0.here hx rfl (hb hby d3_25) rfl rfl kt) ?_
    show Ends p e below _ (s₁.setTop (mkF m 27 #[.val (.ref ax), .val (.ref aw), .val (.double u4), .second, .val (.ref ax), .val (.int (4 : Int32)), .val (.int (0 : Int32)), .unset] [(.ref ax)]))
    refine Ends.pre (fun tt kt => XS.iload X0.here hx rfl (hb hby d3_27) rfl kt) ?_
    show Ends p e below _ (s₁.setTop (mkF m 29 #[.val (.ref ax), .val (.ref aw), .val (.double u4), .second, .val (.ref ax), .val (.int (4 : Int32)), .val (.int (0 : Int32)), .unset] [(.int (0 : Int32)), (.ref ax)]))
    obtain ⟨cl16, Ar16, -, sa16, na16, ha16, -⟩ := id V_ax
    have hin16 : ¬ ((0 : Int32) < 0 ∨ cl16.slots.size ≤ ((0 : Int32)).toNatClampNeg) := inb_of sa16 ⟨by decide, by decide⟩
    refine Ends.pre (fun tt kt => X0.iaload hx (j := (0 : Int32)) (v := (.int x0)) (by rw [e0]; exact Ar16.1) (State.isArrayOf_alike hZ.alike Ar16.2.1) Ar16.2.2 hin16 (Has.at ha16 hin16 rfl) (g := (mkF m 29 #[.val (.ref ax), .val (.ref aw), .val (.double u4), .second, .val (.ref ax), .val (.int (4 : Int32)), .val (.int (0 : Int32)), .unset] [(.int (0 : Int32)), (.ref ax)])) rfl rfl (hb hby d3_29) _ kt) ?_
    show Ends p e below _ (s₁.setTop (mkF m 30 #[.val (.ref ax), .val (.ref aw), .val (.double u4), .second, .val (.ref ax), .val (.int (4 : Int32)), .val (.int (0 : Int32)), .unset] [(.int x0)]))
    refine Ends.pre (fun tt kt => XS.istore X0.here hx rfl (hb hby d3_30) rfl (l' := #[.val (.ref ax), .val (.ref aw), .val (.double u4), .second, .val (.ref ax), .val (.int (4 : Int32)), .val (.int (0 : Int32)), .val (.int x0)]) rfl kt) ?_
    show Ends p e below _ (s₁.setTop (mkF m 32 #[.val (.ref ax), .val (.ref aw), .val (.double u4), .second, .val (.ref ax), .val (.int (4 : Int32)), .val (.int (0 : Int32)), .val (.int x0)] []))
    refine Ends.pre (fun tt kt => XS.dloadN X0.here hx rfl (hb hby d3_32) rfl kt) ?_
    show Ends p e below _ (s₁.setTop (mkF m 33 #[.val (.ref ax), .val (.ref aw), .val (.double u4), .second, .val (.ref ax), .val (.int (4 : Int32)), .val (.int (0 : Int32)), .val (.int x0)] [(.double u4)]))
    refine Ends.pre (fun tt kt => XS.aloadN X0.here hx rfl (hb hby d3_33) rfl rfl kt) ?_
    show Ends p e below _ (s₁.setTop (mkF m 34 #[.val (.ref ax), .val (.ref aw), .val (.double u4), .second, .val (.ref ax), .val (.int (4 : Int32)), .val (.int (0 : Int32)), .val (.int x0)] [(.ref aw), (.double u4)]))
    refine Ends.pre (fun tt kt => XS.iload X0.here hx rfl (hb hby d3_34) rfl kt) ?_
    show Ends p e below _ (s₁.setTop (mkF m 36 #[.val (.ref ax), .val (.ref aw), .val (.double u4), .second, .val (.ref ax), .val (.int (4 : Int32)), .val (.int (0 : Int32)), .val (.int x0)] [(.int x0), (.ref aw), (.double u4)]))
    obtain ⟨cl17, Ar17, -, sa17, na17, ha17, -⟩ := id V_aw
    have hin17 : ¬ (x0 < 0 ∨ cl17.slots.size ≤ (x0).toNatClampNeg) := inb_of sa17 he0
    refine Ends.pre (fun tt kt => X0.daload hx (j := x0) (v := (.double g0)) (by rw [e0]; exact Ar17.1) (State.isArrayOf_alike hZ.alike Ar17.2.1) Ar17.2.2 hin17 (Has.at ha17 hin17 hg0) (g := (mkF m 36 #[.val (.ref ax), .val (.ref aw), .val (.double u4), .second, .val (.ref ax), .val (.int (4 : Int32)), .val (.int (0 : Int32)), .val (.int x0)] [(.int x0), (.ref aw), (.double u4)])) rfl rfl (hb hby d3_36) _ kt) ?_
    show Ends p e below _ (s₁.setTop (mkF m 37 #[.val (.ref ax), .val (.ref aw), .val (.double u4), .second, .val (.ref ax), .val (.int (4 : Int32)), .val (.int (0 : Int32)), .val (.int x0)] [(.double g0), (.double u4)]))
    refine Ends.pre (fun tt kt => XS.daddS X0.here hx rfl (v := (FP.dadd u4 g0)) (hb hby d3_37) rfl nn1 rfl kt) ?_
    show Ends p e below _ (s₁.setTop (mkF m 38 #[.val (.ref ax), .val (.ref aw), .val (.double u4), .second, .val (.ref ax), .val (.int (4 : Int32)), .val (.int (0 : Int32)), .val (.int x0)] [(.double (FP.dadd u4 g0))]))
    refine Ends.pre (fun tt kt => XS.dstoreN X0.here hx rfl (hb hby d3_38) rfl (l' := #[.val (.ref ax), .val (.ref aw), .val (.double (FP.dadd u4 g0)), .second, .val (.ref ax), .val (.int (4 : Int32)), .val (.int (0 : Int32)), .val (.int x0)]) rfl kt) ?_
    show Ends p e below _ (s₁.setTop (mkF m 39 #[.val (.ref ax), .val (.ref aw), .val (.double (FP.dadd u4 g0)), .second, .val (.ref ax), .val (.int (4 : Int32)), .val (.int (0 : Int32)), .val (.int x0)] []))
    refine Ends.pre (fun tt kt => XS.iinc X0.here hx rfl (hb hby d3_39) rfl (l' := #[.val (.ref ax), .val (.ref aw), .val (.double (FP.dadd u4 g0)), .second, .val (.ref ax), .val (.int (4 : Int32)), .val (.int ((0 : Int32) + (1 : Int32))), .val (.int x0)]) rfl kt) ?_
    show Ends p e below _ (s₁.setTop (mkF m 42 #[.val (.ref ax), .val (.ref aw), .val (.double (FP.dadd u4 g0)), .second, .val (.ref ax), .val (.int (4 : Int32)), .val (.int ((0 : Int32) + (1 : Int32))), .val (.int x0)] []))
    show Ends p e below _ (s₁.setTop (mkF m 42 #[.val (.ref ax), .val (.ref aw), .val (.double (FP.dadd u4 g0)), .second, .val (.ref ax), .val (.int (4 : Int32)), .val (.int (1 : Int32)), .val (.int x0)] []))
    refine Ends.pre (fun tt kt => XS.goto X0.here hx rfl (pc0 := 42) (pc' := 18) rfl (hb hby d3_42) (by decide) (by decide) kt) ?_
    show Ends p e below _ (s₁.setTop (mkF m 18 #[.val (.ref ax), .val (.ref aw), .val (.double (FP.dadd u4 g0)), .second, .val (.ref ax), .val (.int (4 : Int32)), .val (.int (1 : Int32)), .val (.int x0)] []))
    refine Ends.pre (fun tt kt => XS.iload X0.here hx rfl (hb hby d3_18) rfl kt) ?_
    show Ends p e below _ (s₁.setTop (mkF m 20 #[.val (.ref ax), .val (.ref aw), .val (.double (FP.dadd u4 g0)), .second, .val (.ref ax), .val (.int (4 : Int32)), .val (.int (1 : Int32)), .val (.int x0)] [(.int (1 : Int32))]))
    refine Ends.pre (fun tt kt => XS.iload X0.here hx rfl (hb hby d3_20) rfl kt) ?_
    show Ends p e below _ (s₁.setTop (mkF m 22 #[.val (.ref ax), .val (.ref aw), .val (.double (FP.dadd u4 g0)), .second, .val (.ref ax), .val (.int (4 : Int32)), .val (.int (1 : Int32)), .val (.int x0)] [(.int (4 : Int32)), (.int (1 : Int32))]))
    refine Ends.pre (fun tt kt => XS.icmpNo X0.here hx rfl (hb hby d3_22) rfl (tlt (by decide)).2.1 kt) ?_
    show Ends p e below _ (s₁.setTop (mkF m 25 #[.val (.ref ax), .val (.ref aw), .val (.double (FP.dadd u4 g0)), .second, .val (.ref ax), .val (.int (4 : Int32)), .val (.int (1 : Int32)), .val (.int x0)] []))
    refine Ends.pre (fun tt kt => XS.aload X0.here hx rfl (hb hby d3_25) rfl rfl kt) ?_
    show Ends p e below _ (s₁.setTop (mkF m 27 #[.val (.ref ax), .val (.ref aw), .val (.double (FP.dadd u4 g0)), .second, .val (.ref ax), .val (.int (4 : Int32)), .val (.int (1 : Int32)), .val (.int x0)] [(.ref ax)]))
    refine Ends.pre (fun tt kt => XS.iload X0.here hx rfl (hb hby d3_27) rfl kt) ?_
    show Ends p e below _ (s₁.setTop (mkF m 29 #[.val (.ref ax), .val (.ref aw), .val (.double (FP.dadd u4 g0)), .second, .val (.ref ax), .val (.int (4 : Int32)), .val (.int (1 : Int32)), .val (.int x0)] [(.int (1 : Int32)), (.ref ax)]))
    obtain ⟨cl18, Ar18, -, sa18, na18, ha18, -⟩ := id V_ax
    have hin18 : ¬ ((1 : Int32) < 0 ∨ cl18.slots.size ≤ ((1 : Int32)).toNatClampNeg) := inb_of sa18 ⟨by decide, by decide⟩
    refine Ends.pre (fun tt kt => X0.iaload hx (j := (1 : Int32)) (v := (.int x1)) (by rw [e0]; exact Ar18.1) (State.isArrayOf_alike hZ.alike Ar18.2.1) Ar18.2.2 hin18 (Has.at ha18 hin18 rfl) (g := (mkF m 29 #[.val (.ref ax), .val (.ref aw), .val (.double (FP.dadd u4 g0)), .second, .val (.ref ax), .val (.int (4 : Int32)), .val (.int (1 : Int32)), .val (.int x0)] [(.int (1 : Int32)), (.ref ax)])) rfl rfl (hb hby d3_29) _ kt) ?_
    show Ends p e below _ (s₁.setTop (mkF m 30 #[.val (.ref ax), .val (.ref aw), .val (.double (FP.dadd u4 g0)), .second, .val (.ref ax), .val (.int (4 : Int32)), .val (.int (1 : Int32)), .val (.int x0)] [(.int x1)]))
    refine Ends.pre (fun tt kt => XS.istore X0.here hx rfl (hb hby d3_30) rfl (l' := #[.val (.ref ax), .val (.ref aw), .val (.double (FP.dadd u4 g0)), .second, .val (.ref ax), .val (.int (4 : Int32)), .val (.int (1 : Int32)), .val (.int x1)]) rfl kt) ?_
    show Ends p e below _ (s₁.setTop (mkF m 32 #[.val (.ref ax), .val (.ref aw), .val (.double (FP.dadd u4 g0)), .second, .val (.ref ax), .val (.int (4 : Int32)), .val (.int (1 : Int32)), .val (.int x1)] []))
    refine Ends.pre (fun tt kt => XS.dloadN X0.here hx rfl (hb hby d3_32) rfl kt) ?_
    show Ends p e below _ (s₁.setTop (mkF m 33 #[.val (.ref ax), .val (.ref aw), .val (.double (FP.dadd u4 g0)), .second, .val (.ref ax), .val (.int (4 : Int32)), .val (.int (1 : Int32)), .val (.int x1)] [(.double (FP.dadd u4 g0))]))
    refine Ends.pre (fun tt kt => XS.aloadN X0.here hx rfl (hb hby d3_33) rfl rfl kt) ?_
    show Ends p e below _ (s₁.setTop (mkF m 34 #[.val (.ref ax), .val (.ref aw), .val (.double (FP.dadd u4 g0)), .second, .val (.ref ax), .val (.int (4 : Int32)), .val (.int (1 : Int32)), .val (.int x1)] [(.ref aw), (.double (FP.dadd u4 g0))]))
    refine Ends.pre (fun tt kt => XS.iload X0.here hx rfl (hb hby d3_34) rfl kt) ?_
    show Ends p e below _ (s₁.setTop (mkF m 36 #[.val (.ref ax), .val (.ref aw), .val (.double (FP.dadd u4 g0)), .second, .val (.ref ax), .val (.int (4 : Int32)), .val (.int (1 : Int32)), .val (.int x1)] [(.int x1), (.ref aw), (.double (FP.dadd u4 g0))]))
    obtain ⟨cl19, Ar19, -, sa19, na19, ha19, -⟩ := id V_aw
    have hin19 : ¬ (x1 < 0 ∨ cl19.slots.size ≤ (x1).toNatClampNeg) := inb_of sa19 he1
    refine Ends.pre (fun tt kt => X0.daload hx (j := x1) (v := (.double g1)) (by rw [e0]; exact Ar19.1) (State.isArrayOf_alike hZ.alike Ar19.2.1) Ar19.2.2 hin19 (Has.at ha19 hin19 hg1) (g := (mkF m 36 #[.val (.ref ax), .val (.ref aw), .val (.double (FP.dadd u4 g0)), .second, .val (.ref ax), .val (.int (4 : Int32)), .val (.int (1 : Int32)), .val (.int x1)] [(.int x1), (.ref aw), (.double (FP.dadd u4 g0))])) rfl rfl (hb hby d3_36) _ kt) ?_
    show Ends p e below _ (s₁.setTop (mkF m 37 #[.val (.ref ax), .val (.ref aw), .val (.double (FP.dadd u4 g0)), .second, .val (.ref ax), .val (.int (4 : Int32)), .val (.int (1 : Int32)), .val (.int x1)] [(.double g1), (.double (FP.dadd u4 g0))]))
    refine Ends.pre (fun tt kt => XS.daddS X0.here hx rfl (v := (FP.dadd (FP.dadd u4 g0) g1)) (hb hby d3_37) rfl nn2 rfl kt) ?_
    show Ends p e below _ (s₁.setTop (mkF m 38 #[.val (.ref ax), .val (.ref aw), .val (.double (FP.dadd u4 g0)), .second, .val (.ref ax), .val (.int (4 : Int32)), .val (.int (1 : Int32)), .val (.int x1)] [(.double (FP.dadd (FP.dadd u4 g0) g1))]))
    refine Ends.pre (fun tt kt => XS.dstoreN X0.here hx rfl (hb hby d3_38) rfl (l' := #[.val (.ref ax), .val (.ref aw), .val (.double (FP.dadd (FP.dadd u4 g0) g1)), .second, .val (.ref ax), .val (.int (4 : Int32)), .val (.int (1 : Int32)), .val (.int x1)]) rfl kt) ?_
    show Ends p e below _ (s₁.setTop (mkF m 39 #[.val (.ref ax), .val (.ref aw), .val (.double (FP.dadd (FP.dadd u4 g0) g1)), .second, .val (.ref ax), .val (.int (4 : Int32)), .val (.int (1 : Int32)), .val (.int x1)] []))
    refine Ends.pre (fun tt kt => XS.iinc X0.here hx rfl (hb hby d3_39) rfl (l' := #[.val (.ref ax), .val (.ref aw), .val (.double (FP.dadd (FP.dadd u4 g0) g1)), .second, .val (.ref ax), .val (.int (4 : Int32)), .val (.int ((1 : Int32) + (1 : Int32))), .val (.int x1)]) rfl kt) ?_
    show Ends p e below _ (s₁.setTop (mkF m 42 #[.val (.ref ax), .val (.ref aw), .val (.double (FP.dadd (FP.dadd u4 g0) g1)), .second, .val (.ref ax), .val (.int (4 : Int32)), .val (.int ((1 : Int32) + (1 : Int32))), .val (.int x1)] []))
    show Ends p e below _ (s₁.setTop (mkF m 42 #[.val (.ref ax), .val (.ref aw), .val (.double (FP.dadd (FP.dadd u4 g0) g1)), .second, .val (.ref ax), .val (.int (4 : Int32)), .val (.int (2 : Int32)), .val (.int x1)] []))
    refine Ends.pre (fun tt kt => XS.goto X0.here hx rfl (pc0 := 42) (pc' := 18) rfl (hb hby d3_42) (by decide) (by decide) kt) ?_
    show Ends p e below _ (s₁.setTop (mkF m 18 #[.val (.ref ax), .val (.ref aw), .val (.double (FP.dadd (FP.dadd u4 g0) g1)), .second, .val (.ref ax), .val (.int (4 : Int32)), .val (.int (2 : Int32)), .val (.int x1)] []))
    refine Ends.pre (fun tt kt => XS.iload X0.here hx rfl (hb hby d3_18) rfl kt) ?_
    show Ends p e below _ (s₁.setTop (mkF m 20 #[.val (.ref ax), .val (.ref aw), .val (.double (FP.dadd (FP.dadd u4 g0) g1)), .second, .val (.ref ax), .val (.int (4 : Int32)), .val (.int (2 : Int32)), .val (.int x1)] [(.int (2 : Int32))]))
    refine Ends.pre (fun tt kt => XS.iload X0.here hx rfl (hb hby d3_20) rfl kt) ?_
    show Ends p e below _ (s₁.setTop (mkF m 22 #[.val (.ref ax), .val (.ref aw), .val (.double (FP.dadd (FP.dadd u4 g0) g1)), .second, .val (.ref ax), .val (.int (4 : Int32)), .val (.int (2 : Int32)), .val (.int x1)] [(.int (4 : Int32)), (.int (2 : Int32))]))
    refine Ends.pre (fun tt kt => XS.icmpNo X0.here hx rfl (hb hby d3_22) rfl (tlt (by decide)).2.1 kt) ?_
    show Ends p e below _ (s₁.setTop (mkF m 25 #[.val (.ref ax), .val (.ref aw), .val (.double (FP.dadd (FP.dadd u4 g0) g1)), .second, .val (.ref ax), .val (.int (4 : Int32)), .val (.int (2 : Int32)), .val (.int x1)] []))
    refine Ends.pre (fun tt kt => XS.aload X0.here hx rfl (hb hby d3_25) rfl rfl kt) ?_
    show Ends p e below _ (s₁.setTop (mkF m 27 #[.val (.ref ax), .val (.ref aw), .val (.double (FP.dadd (FP.dadd u4 g0) g1)), .second, .val (.ref ax), .val (.int (4 : Int32)), .val (.int (2 : Int32)), .val (.int x1)] [(.ref ax)]))
    refine Ends.pre (fun tt kt => XS.iload X0.here hx rfl (hb hby d3_27) rfl kt) ?_
    show Ends p e below _ (s₁.setTop (mkF m 29 #[.val (.ref ax), .val (.ref aw), .val (.double (FP.dadd (FP.dadd u4 g0) g1)), .second, .val (.ref ax), .val (.int (4 : Int32)), .val (.int (2 : Int32)), .val (.int x1)] [(.int (2 : Int32)), (.ref ax)]))
    obtain ⟨cl20, Ar20, -, sa20, na20, ha20, -⟩ := id V_ax
    have hin20 : ¬ ((2 : Int32) < 0 ∨ cl20.slots.size ≤ ((2 : Int32)).toNatClampNeg) := inb_of sa20 ⟨by decide, by decide⟩
    refine Ends.pre (fun tt kt => X0.iaload hx (j := (2 : Int32)) (v := (.int x2)) (by rw [e0]; exact Ar20.1) (State.isArrayOf_alike hZ.alike Ar20.2.1) Ar20.2.2 hin20 (Has.at ha20 hin20 rfl) (g := (mkF m 29 #[.val (.ref ax), .val (.ref aw), .val (.double (FP.dadd (FP.dadd u4 g0) g1)), .second, .val (.ref ax), .val (.int (4 : Int32)), .val (.int (2 : Int32)), .val (.int x1)] [(.int (2 : Int32)), (.ref ax)])) rfl rfl (hb hby d3_29) _ kt) ?_
    show Ends p e below _ (s₁.setTop (mkF m 30 #[.val (.ref ax), .val (.ref aw), .val (.double (FP.dadd (FP.dadd u4 g0) g1)), .second, .val (.ref ax), .val (.int (4 : Int32)), .val (.int (2 : Int32)), .val (.int x1)] [(.int x2)]))
    refine Ends.pre (fun tt kt => XS.istore X0.here hx rfl (hb hby d3_30) rfl (l' := #[.val (.ref ax), .val (.ref aw), .val (.double (FP.dadd (FP.dadd u4 g0) g1)), .second, .val (.ref ax), .val (.int (4 : Int32)), .val (.int (2 : Int32)), .val (.int x2)]) rfl kt) ?_
    show Ends p e below _ (s₁.setTop (mkF m 32 #[.val (.ref ax), .val (.ref aw), .val (.double (FP.dadd (FP.dadd u4 g0) g1)), .second, .val (.ref ax), .val (.int (4 : Int32)), .val (.int (2 : Int32)), .val (.int x2)] []))
    refine Ends.pre (fun tt kt => XS.dloadN X0.here hx rfl (hb hby d3_32) rfl kt) ?_
    show Ends p e below _ (s₁.setTop (mkF m 33 #[.val (.ref ax), .val (.ref aw), .val (.double (FP.dadd (FP.dadd u4 g0) g1)), .second, .val (.ref ax), .val (.int (4 : Int32)), .val (.int (2 : Int32)), .val (.int x2)] [(.double (FP.dadd (FP.dadd u4 g0) g1))]))
    refine Ends.pre (fun tt kt => XS.aloadN X0.here hx rfl (hb hby d3_33) rfl rfl kt) ?_
    show Ends p e below _ (s₁.setTop (mkF m 34 #[.val (.ref ax), .val (.ref aw), .val (.double (FP.dadd (FP.dadd u4 g0) g1)), .second, .val (.ref ax), .val (.int (4 : Int32)), .val (.int (2 : Int32)), .val (.int x2)] [(.ref aw), (.double (FP.dadd (FP.dadd u4 g0) g1))]))
    refine Ends.pre (fun tt kt => XS.iload X0.here hx rfl (hb hby d3_34) rfl kt) ?_
    show Ends p e below _ (s₁.setTop (mkF m 36 #[.val (.ref ax), .val (.ref aw), .val (.double (FP.dadd (FP.dadd u4 g0) g1)), .second, .val (.ref ax), .val (.int (4 : Int32)), .val (.int (2 : Int32)), .val (.int x2)] [(.int x2), (.ref aw), (.double (FP.dadd (FP.dadd u4 g0) g1))]))
    obtain ⟨cl21, Ar21, -, sa21, na21, ha21, -⟩ := id V_aw
    have hin21 : ¬ (x2 < 0 ∨ cl21.slots.size ≤ (x2).toNatClampNeg) := inb_of sa21 he2
    refine Ends.pre (fun tt kt => X0.daload hx (j := x2) (v := (.double g2)) (by rw [e0]; exact Ar21.1) (State.isArrayOf_alike hZ.alike Ar21.2.1) Ar21.2.2 hin21 (Has.at ha21 hin21 hg2) (g := (mkF m 36 #[.val (.ref ax), .val (.ref aw), .val (.double (FP.dadd (FP.dadd u4 g0) g1)), .second, .val (.ref ax), .val (.int (4 : Int32)), .val (.int (2 : Int32)), .val (.int x2)] [(.int x2), (.ref aw), (.double (FP.dadd (FP.dadd u4 g0) g1))])) rfl rfl (hb hby d3_36) _ kt) ?_
    show Ends p e below _ (s₁.setTop (mkF m 37 #[.val (.ref ax), .val (.ref aw), .val (.double (FP.dadd (FP.dadd u4 g0) g1)), .second, .val (.ref ax), .val (.int (4 : Int32)), .val (.int (2 : Int32)), .val (.int x2)] [(.double g2), (.double (FP.dadd (FP.dadd u4 g0) g1))]))
    refine Ends.pre (fun tt kt => XS.daddS X0.here hx rfl (v := (FP.dadd (FP.dadd (FP.dadd u4 g0) g1) g2)) (hb hby d3_37) rfl nn3 rfl kt) ?_
    show Ends p e below _ (s₁.setTop (mkF m 38 #[.val (.ref ax), .val (.ref aw), .val (.double (FP.dadd (FP.dadd u4 g0) g1)), .second, .val (.ref ax), .val (.int (4 : Int32)), .val (.int (2 : Int32)), .val (.int x2)] [(.double (FP.dadd (FP.dadd (FP.dadd u4 g0) g1) g2))]))
    refine Ends.pre (fun tt kt => XS.dstoreN X0.here hx rfl (hb hby d3_38) rfl (l' := #[.val (.ref ax), .val (.ref aw), .val (.double (FP.dadd (FP.dadd (FP.dadd u4 g0) g1) g2)), .second, .val (.ref ax), .val (.int (4 : Int32)), .val (.int (2 : Int32)), .val (.int x2)]) rfl kt) ?_
    show Ends p e below _ (s₁.setTop (mkF m 39 #[.val (.ref ax), .val (.ref aw), .val (.double (FP.dadd (FP.dadd (FP.dadd u4 g0) g1) g2)), .second, .val (.ref ax), .val (.int (4 : Int32)), .val (.int (2 : Int32)), .val (.int x2)] []))
    refine Ends.pre (fun tt kt => XS.iinc X0.here hx rfl (hb hby d3_39) rfl (l' := #[.val (.ref ax), .val (.ref aw), .val (.double (FP.dadd (FP.dadd (FP.dadd u4 g0) g1) g2)), .second, .val (.ref ax), .val (.int (4 : Int32)), .val (.int ((2 : Int32) + (1 : Int32))), .val (.int x2)]) rfl kt) ?_
    show Ends p e below _ (s₁.setTop (mkF m 42 #[.val (.ref ax), .val (.ref aw), .val (.double (FP.dadd (FP.dadd (FP.dadd u4 g0) g1) g2)), .second, .val (.ref ax), .val (.int (4 : Int32)), .val (.int ((2 : Int32) + (1 : Int32))), .val (.int x2)] []))
    show Ends p e below _ (s₁.setTop (mkF m 42 #[.val (.ref ax), .val (.ref aw), .val (.double (FP.dadd (FP.dadd (FP.dadd u4 g0) g1) g2)), .second, .val (.ref ax), .val (.int (4 : Int32)), .val (.int (3 : Int32)), .val (.int x2)] []))
    refine Ends.pre (fun tt kt => XS.goto X0.here hx rfl (pc0 := 42) (pc' := 18) rfl (hb hby d3_42) (by decide) (by decide) kt) ?_
    show Ends p e below _ (s₁.setTop (mkF m 18 #[.val (.ref ax), .val (.ref aw), .val (.double (FP.dadd (FP.dadd (FP.dadd u4 g0) g1) g2)), .second, .val (.ref ax), .val (.int (4 : Int32)), .val (.int (3 : Int32)), .val (.int x2)] []))
    refine Ends.pre (fun tt kt => XS.iload X0.here hx rfl (hb hby d3_18) rfl kt) ?_
    show Ends p e below _ (s₁.setTop (mkF m 20 #[.val (.ref ax), .val (.ref aw), .val (.double (FP.dadd (FP.dadd (FP.dadd u4 g0) g1) g2)), .second, .val (.ref ax), .val (.int (4 : Int32)), .val (.int (3 : Int32)), .val (.int x2)] [(.int (3 : Int32))]))
    refine Ends.pre (fun tt kt => XS.iload X0.here hx rfl (hb hby d3_20) rfl kt) ?_
    show Ends p e below _ (s₁.setTop (mkF m 22 #[.val (.ref ax), .val (.ref aw), .val (.double (FP.dadd (FP.dadd (FP.dadd u4 g0) g1) g2)), .second, .val (.ref ax), .val (.int (4 : Int32)), .val (.int (3 : Int32)), .val (.int x2)] [(.int (4 : Int32)), (.int (3 : Int32))]))
    refine Ends.pre (fun tt kt => XS.icmpNo X0.here hx rfl (hb hby d3_22) rfl (tlt (by decide)).2.1 kt) ?_
    show Ends p e below _ (s₁.setTop (mkF m 25 #[.val (.ref ax), .val (.ref aw), .val (.double (FP.dadd (FP.dadd (FP.dadd u4 g0) g1) g2)), .second, .val (.ref ax), .val (.int (4 : Int32)), .val (.int (3 : Int32)), .val (.int x2)] []))
    refine Ends.pre (fun tt kt => XS.aload X0.here hx rfl (hb hby d3_25) rfl rfl kt) ?_
    show Ends p e below _ (s₁.setTop (mkF m 27 #[.val (.ref ax), .val (.ref aw), .val (.double (FP.dadd (FP.dadd (FP.dadd u4 g0) g1) g2)), .second, .val (.ref ax), .val (.int (4 : Int32)), .val (.int (3 : Int32)), .val (.int x2)] [(.ref ax)]))
    refine Ends.pre (fun tt kt => XS.iload X0.here hx rfl (hb hby d3_27) rfl kt) ?_
    show Ends p e below _ (s₁.setTop (mkF m 29 #[.val (.ref ax), .val (.ref aw), .val (.double (FP.dadd (FP.dadd (FP.dadd u4 g0) g1) g2)), .second, .val (.ref ax), .val (.int (4 : Int32)), .val (.int (3 : Int32)), .val (.int x2)] [(.int (3 : Int32)), (.ref ax)]))
    obtain ⟨cl22, Ar22, -, sa22, na22, ha22, -⟩ := id V_ax
    have hin22 : ¬ ((3 : Int32) < 0 ∨ cl22.slots.size ≤ ((3 : Int32)).toNatClampNeg) := inb_of sa22 ⟨by decide, by decide⟩
    refine Ends.pre (fun tt kt => X0.iaload hx (j := (3 : Int32)) (v := (.int x3)) (by rw [e0]; exact Ar22.1) (State.isArrayOf_alike hZ.alike Ar22.2.1) Ar22.2.2 hin22 (Has.at ha22 hin22 rfl) (g := (mkF m 29 #[.val (.ref ax), .val (.ref aw), .val (.double (FP.dadd (FP.dadd (FP.dadd u4 g0) g1) g2)), .second, .val (.ref ax), .val (.int (4 : Int32)), .val (.int (3 : Int32)), .val (.int x2)] [(.int (3 : Int32)), (.ref ax)])) rfl rfl (hb hby d3_29) _ kt) ?_
    show Ends p e below _ (s₁.setTop (mkF m 30 #[.val (.ref ax), .val (.ref aw), .val (.double (FP.dadd (FP.dadd (FP.dadd u4 g0) g1) g2)), .second, .val (.ref ax), .val (.int (4 : Int32)), .val (.int (3 : Int32)), .val (.int x2)] [(.int x3)]))
    refine Ends.pre (fun tt kt => XS.istore X0.here hx rfl (hb hby d3_30) rfl (l' := #[.val (.ref ax), .val (.ref aw), .val (.double (FP.dadd (FP.dadd (FP.dadd u4 g0) g1) g2)), .second, .val (.ref ax), .val (.int (4 : Int32)), .val (.int (3 : Int32)), .val (.int x3)]) rfl kt) ?_
    show Ends p e below _ (s₁.setTop (mkF m 32 #[.val (.ref ax), .val (.ref aw), .val (.double (FP.dadd (FP.dadd (FP.dadd u4 g0) g1) g2)), .second, .val (.ref ax), .val (.int (4 : Int32)), .val (.int (3 : Int32)), .val (.int x3)] []))
    refine Ends.pre (fun tt kt => XS.dloadN X0.here hx rfl (hb hby d3_32) rfl kt) ?_
    show Ends p e below _ (s₁.setTop (mkF m 33 #[.val (.ref ax), .val (.ref aw), .val (.double (FP.dadd (FP.dadd (FP.dadd u4 g0) g1) g2)), .second, .val (.ref ax), .val (.int (4 : Int32)), .val (.int (3 : Int32)), .val (.int x3)] [(.double (FP.dadd (FP.dadd (FP.dadd u4 g0) g1) g2))]))
    refine Ends.pre (fun tt kt => XS.aloadN X0.here hx rfl (hb hby d3_33) rfl rfl kt) ?_
    show Ends p e below _ (s₁.setTop (mkF m 34 #[.val (.ref ax), .val (.ref aw), .val (.double (FP.dadd (FP.dadd (FP.dadd u4 g0) g1) g2)), .second, .val (.ref ax), .val (.int (4 : Int32)), .val (.int (3 : Int32)), .val (.int x3)] [(.ref aw), (.double (FP.dadd (FP.dadd (FP.dadd u4 g0) g1) g2))]))
    refine Ends.pre (fun tt kt => XS.iload X0.here hx rfl (hb hby d3_34) rfl kt) ?_
    show Ends p e below _ (s₁.setTop (mkF m 36 #[.val (.ref ax), .val (.ref aw), .val (.double (FP.dadd (FP.dadd (FP.dadd u4 g0) g1) g2)), .second, .val (.ref ax), .val (.int (4 : Int32)), .val (.int (3 : Int32)), .val (.int x3)] [(.int x3), (.ref aw), (.double (FP.dadd (FP.dadd (FP.dadd u4 g0) g1) g2))]))
    obtain ⟨cl23, Ar23, -, sa23, na23, ha23, -⟩ := id V_aw
    have hin23 : ¬ (x3 < 0 ∨ cl23.slots.size ≤ (x3).toNatClampNeg) := inb_of sa23 he3
    refine Ends.pre (fun tt kt => X0.daload hx (j := x3) (v := (.double g3)) (by rw [e0]; exact Ar23.1) (State.isArrayOf_alike hZ.alike Ar23.2.1) Ar23.2.2 hin23 (Has.at ha23 hin23 hg3) (g := (mkF m 36 #[.val (.ref ax), .val (.ref aw), .val (.double (FP.dadd (FP.dadd (FP.dadd u4 g0) g1) g2)), .second, .val (.ref ax), .val (.int (4 : Int32)), .val (.int (3 : Int32)), .val (.int x3)] [(.int x3), (.ref aw), (.double (FP.dadd (FP.dadd (FP.dadd u4 g0) g1) g2))])) rfl rfl (hb hby d3_36) _ kt) ?_
    show Ends p e below _ (s₁.setTop (mkF m 37 #[.val (.ref ax), .val (.ref aw), .val (.double (FP.dadd (FP.dadd (FP.dadd u4 g0) g1) g2)), .second, .val (.ref ax), .val (.int (4 : Int32)), .val (.int (3 : Int32)), .val (.int x3)] [(.double g3), (.double (FP.dadd (FP.dadd (FP.dadd u4 g0) g1) g2))]))
    refine Ends.pre (fun tt kt => XS.daddS X0.here hx rfl (v := (FP.dadd (FP.dadd (FP.dadd (FP.dadd u4 g0) g1) g2) g3)) (hb hby d3_37) rfl nn4 rfl kt) ?_
    show Ends p e below _ (s₁.setTop (mkF m 38 #[.val (.ref ax), .val (.ref aw), .val (.double (FP.dadd (FP.dadd (FP.dadd u4 g0) g1) g2)), .second, .val (.ref ax), .val (.int (4 : Int32)), .val (.int (3 : Int32)), .val (.int x3)] [(.double (FP.dadd (FP.dadd (FP.dadd (FP.dadd u4 g0) g1) g2) g3))]))
    refine Ends.pre (fun tt kt => XS.dstoreN X0.here hx rfl (hb hby d3_38) rfl (l' := #[.val (.ref ax), .val (.ref aw), .val (.double (FP.dadd (FP.dadd (FP.dadd (FP.dadd u4 g0) g1) g2) g3)), .second, .val (.ref ax), .val (.int (4 : Int32)), .val (.int (3 : Int32)), .val (.int x3)]) rfl kt) ?_
    show Ends p e below _ (s₁.setTop (mkF m 39 #[.val (.ref ax), .val (.ref aw), .val (.double (FP.dadd (FP.dadd (FP.dadd (FP.dadd u4 g0) g1) g2) g3)), .second, .val (.ref ax), .val (.int (4 : Int32)), .val (.int (3 : Int32)), .val (.int x3)] []))
    refine Ends.pre (fun tt kt => XS.iinc X0.here hx rfl (hb hby d3_39) rfl (l' := #[.val (.ref ax), .val (.ref aw), .val (.double (FP.dadd (FP.dadd (FP.dadd (FP.dadd u4 g0) g1) g2) g3)), .second, .val (.ref ax), .val (.int (4 : Int32)), .val (.int ((3 : Int32) + (1 : Int32))), .val (.int x3)]) rfl kt) ?_
    show Ends p e below _ (s₁.setTop (mkF m 42 #[.val (.ref ax), .val (.ref aw), .val (.double (FP.dadd (FP.dadd (FP.dadd (FP.dadd u4 g0) g1) g2) g3)), .second, .val (.ref ax), .val (.int (4 : Int32)), .val (.int ((3 : Int32) + (1 : Int32))), .val (.int x3)] []))
    show Ends p e below _ (s₁.setTop (mkF m 42 #[.val (.ref ax), .val (.ref aw), .val (.double (FP.dadd (FP.dadd (FP.dadd (FP.dadd u4 g0) g1) g2) g3)), .second, .val (.ref ax), .val (.int (4 : Int32)), .val (.int (4 : Int32)), .val (.int x3)] []))
    refine Ends.pre (fun tt kt => XS.goto X0.here hx rfl (pc0 := 42) (pc' := 18) rfl (hb hby d3_42) (by decide) (by decide) kt) ?_
    show Ends p e below _ (s₁.setTop (mkF m 18 #[.val (.ref ax), .val (.ref aw), .val (.double (FP.dadd (FP.dadd (FP.dadd (FP.dadd u4 g0) g1) g2) g3)), .second, .val (.ref ax), .val (.int (4 : Int32)), .val (.int (4 : Int32)), .val (.int x3)] []))
    refine Ends.pre (fun tt kt => XS.iload X0.here hx rfl (hb hby d3_18) rfl kt) ?_
    show Ends p e below _ (s₁.setTop (mkF m 20 #[.val (.ref ax), .val (.ref aw), .val (.double (FP.dadd (FP.dadd (FP.dadd (FP.dadd u4 g0) g1) g2) g3)), .second, .val (.ref ax), .val (.int (4 : Int32)), .val (.int (4 : Int32)), .val (.int x3)] [(.int (4 : Int32))]))
    refine Ends.pre (fun tt kt => XS.iload X0.here hx rfl (hb hby d3_20) rfl kt) ?_
    show Ends p e below _ (s₁.setTop (mkF m 22 #[.val (.ref ax), .val (.ref aw), .val (.double (FP.dadd (FP.dadd (FP.dadd (FP.dadd u4 g0) g1) g2) g3)), .second, .val (.ref ax), .val (.int (4 : Int32)), .val (.int (4 : Int32)), .val (.int x3)] [(.int (4 : Int32)), (.int (4 : Int32))]))
    refine Ends.pre (fun tt kt => XS.icmpYes X0.here hx rfl (pc0 := 22) (pc' := 45) rfl (hb hby d3_22) rfl (flt (by decide)).2.1 (by decide) (by decide) kt) ?_
    show Ends p e below _ (s₁.setTop (mkF m 45 #[.val (.ref ax), .val (.ref aw), .val (.double (FP.dadd (FP.dadd (FP.dadd (FP.dadd u4 g0) g1) g2) g3)), .second, .val (.ref ax), .val (.int (4 : Int32)), .val (.int (4 : Int32)), .val (.int x3)] []))
    refine Ends.pre (fun tt kt => XS.dloadN X0.here hx rfl (hb hby d3_45) rfl kt) ?_
    show Ends p e below _ (s₁.setTop (mkF m 46 #[.val (.ref ax), .val (.ref aw), .val (.double (FP.dadd (FP.dadd (FP.dadd (FP.dadd u4 g0) g1) g2) g3)), .second, .val (.ref ax), .val (.int (4 : Int32)), .val (.int (4 : Int32)), .val (.int x3)] [(.double (FP.dadd (FP.dadd (FP.dadd (FP.dadd u4 g0) g1) g2) g3))]))
    obtain ⟨fs, hr, hrun, hended, hW, hsame⟩ := X0.leave (v := some (.double (FP.dadd (FP.dadd (FP.dadd (FP.dadd u4 g0) g1) g2) g3))) (fun h => by rw [Bd.returns] at h; cases h)
    refine ⟨_, _, retOut X0 hx Bd.returns rfl (Or.inr (Or.inr (Or.inl ⟨rfl, rfl, _, rfl⟩))) (hb hby d3_46) hr, hrun, hended, _, _, rfl, ?_, ⟨_, rfl⟩, hW, hsame.mono (by decide) (by decide)⟩
    show Q3 Z _ _ _ _ _ _ _ _ _ _ _ _ _ _ _ _ _ _ h0 n0 _ s₁.heap _
    rw [e0]
    exact ⟨by unfold own_acc; rw [if_neg (by decide), if_neg (by decide), if_neg (by decide), if_neg (by decide)], N0, rfl⟩
theorem pd0_0 : parseMethodDescriptor "([I[D)D" = some ⟨[(.array .int), (.array .double)], some .double⟩ := by decide +kernel
theorem pn0 : plainName "com/example/haku/haku/triage/LogisticRegressionLogOddsPinLaw" = true := by first | (simp [plainName, overriddenIn]; done) | decide +kernel
theorem ef0 (m : MethodId) (x0 : Int32) (x1 : Int32) (x2 : Int32) (x3 : Int32) (x4 : Int32) (x5 : Int32) : entryFrame m #[(.int x0), (.int x1), (.int x2), (.int x3), (.int x4), (.int x5)] maxLocals = mkF m 0 #[.val (.int x0), .val (.int x1), .val (.int x2), .val (.int x3), .val (.int x4), .val (.int x5), .unset, .unset, .unset, .unset, .unset, .unset, .unset, .unset, .unset, .unset, .unset, .unset, .unset] [] := by first | (simp [entryFrame, mkF, argsToLocals, Value.category, maxLocals]; done) | rfl
def Q0 (Z : State) (w0 : Int32) (w1 : Int32) (w2 : Int32) (w3 : Int32) (bb : Int32) (sel : Int32) (h0 : Heap) (n0 : Nat) (v : Option Value) (h : Heap) (L : List Loc) : Prop := v = some (.int 1) ∧ Fr n0 L
set_option maxRecDepth 65536 in
set_option maxHeartbeats 40000000 in
theorem rm0 (l : Launch) (Z : State) (a0 : Array Value) (hw : ∀ d ∈ tables_1, d.before a0 Z = true) (ws : List Jvm.Cond) (w0 : Int32) (w1 : Int32) (w2 : Int32) (w3 : Int32) (bb : Int32) (sel : Int32) (h0 : Heap) (n0 : Nat) (Z0 : n0 ≤ h0.size) :
    MetFree l x (head1 (Jvm.Cond.code x code maxLocals ret :: ws) room_1) (fun aa U => aa = #[(.int w0), (.int w1), (.int w2), (.int w3), (.int bb), (.int sel)] ∧ Z.Warmed39 U.vm ∧ U.heap = h0) (fun _ _ _ _ _ => True) (fun _ UU oo UU' => ∃ vv LL, oo = .returned vv ∧ Q0 Z w0 w1 w2 w3 bb sel h0 n0 vv UU'.heap LL ∧ FrameEnd UU oo UU' LL room_1.cells room_1.slots) := by
  refine MetFree.of_bodySF (plainFor_of_name pn0) hisR ?_
  intro p e s m args below meth c s₁ Bd hml0 hP hK
  obtain ⟨rfl, hZ, hh⟩ := hP
  have hx := Bd.exec
  have hby := Bd.bytes
  have hml : c.maxLocals = 19 := hml0
  have hown : s.vm.findClass "com/example/haku/haku/triage/LogisticRegressionLogOddsPinLaw" = some m.cls := findClass_of_methodNamed Bd.named
  have hnm := (name_of_methodNamed Bd.named Bd.method).1
  have X0 : Stand p l e room_1 s m #[(.int w0), (.int w1), (.int w2), (.int w3), (.int bb), (.int sel)] below meth c s₁ [] 0 0 := Stand.of_body Bd
  have e0 : s₁.heap = h0 := by rw [← hh, Bd.state]; rfl
  have N0 := Fr.nil n0
  show Ends p e below (fun tt oo => ∃ vv LL, oo = .returned vv ∧ Q0 Z w0 w1 w2 w3 bb sel h0 n0 vv tt.heap LL ∧ FrameEnd s oo tt LL room_1.cells room_1.slots) (s₁.setTop (entryFrame m #[(.int w0), (.int w1), (.int w2), (.int w3), (.int bb), (.int sel)] maxLocals))
  refine Ends.pre (fun t k => castTop (ef0 m w0 w1 w2 w3 bb sel) k) ?_
  show Ends p e below _ (s₁.setTop (mkF m 0 #[.val (.int w0), .val (.int w1), .val (.int w2), .val (.int w3), .val (.int bb), .val (.int sel), .unset, .unset, .unset, .unset, .unset, .unset, .unset, .unset, .unset, .unset, .unset, .unset, .unset] []))
  refine Ends.pre (fun tt kt => XS.iconst X0.here hx rfl (hb hby at_0) kt) ?_
  show Ends p e below _ (s₁.setTop (mkF m 1 #[.val (.int w0), .val (.int w1), .val (.int w2), .val (.int w3), .val (.int bb), .val (.int sel), .unset, .unset, .unset, .unset, .unset, .unset, .unset, .unset, .unset, .unset, .unset, .unset, .unset] [(.int (5 : Int32))]))
  obtain ⟨T24, h24, k24, X24, e24, E24, A24, st24⟩ := newP X0 hx hZ (hw _ (List.mem_of_getElem? (i := 0) rfl)) e0 (g := (mkF m 1 #[.val (.int w0), .val (.int w1), .val (.int w2), .val (.int w3), .val (.int bb), .val (.int sel), .unset, .unset, .unset, .unset, .unset, .unset, .unset, .unset, .unset, .unset, .unset, .unset, .unset] [(.int (5 : Int32))])) rfl (hb hby at_1) rfl (by decide) (cap := 5) (by decide) (by decide) (by decide) (by decide)
  obtain ⟨aw, g24⟩ : ∃ z, z = h0.size := ⟨_, rfl⟩
  rw [← g24] at A24 st24
  have g_aw : n0 ≤ aw := Nat.le_trans Z0 (Nat.le_of_eq g24.symm)
  have Z0 := Nat.le_trans Z0 E24.1
  have V_aw : Arv Z h24 aw k24 .double (5 : Int32) [(.double 0), (.double 0), (.double 0), (.double 0), (.double 0)] (.double 0) := (Arv.new A24 (by decide)).pad (pad_rep [] _ 5)
  refine Ends.pre (fun tt kt => st24 _ kt) ?_
  show Ends p e below _ (T24.setTop (mkF m 3 #[.val (.int w0), .val (.int w1), .val (.int w2), .val (.int w3), .val (.int bb), .val (.int sel), .unset, .unset, .unset, .unset, .unset, .unset, .unset, .unset, .unset, .unset, .unset, .unset, .unset] [(.ref aw)]))
  refine Ends.pre (fun tt kt => XS.astore X24.here hx rfl (hb hby at_3) rfl rfl (l' := #[.val (.int w0), .val (.int w1), .val (.int w2), .val (.int w3), .val (.int bb), .val (.int sel), .val (.ref aw), .unset, .unset, .unset, .unset, .unset, .unset, .unset, .unset, .unset, .unset, .unset, .unset]) rfl kt) ?_
  show Ends p e below _ (T24.setTop (mkF m 5 #[.val (.int w0), .val (.int w1), .val (.int w2), .val (.int w3), .val (.int bb), .val (.int sel), .val (.ref aw), .unset, .unset, .unset, .unset, .unset, .unset, .unset, .unset, .unset, .unset, .unset, .unset] []))
  refine Ends.pre (fun tt kt => XS.aload X24.here hx rfl (hb hby at_5) rfl rfl kt) ?_
  show Ends p e below _ (T24.setTop (mkF m 7 #[.val (.int w0), .val (.int w1), .val (.int w2), .val (.int w3), .val (.int bb), .val (.int sel), .val (.ref aw), .unset, .unset, .unset, .unset, .unset, .unset, .unset, .unset, .unset, .unset, .unset, .unset] [(.ref aw)]))
  refine Ends.pre (fun tt kt => XS.iconst X24.here hx rfl (hb hby at_7) kt) ?_
  show Ends p e below _ (T24.setTop (mkF m 8 #[.val (.int w0), .val (.int w1), .val (.int w2), .val (.int w3), .val (.int bb), .val (.int sel), .val (.ref aw), .unset, .unset, .unset, .unset, .unset, .unset, .unset, .unset, .unset, .unset, .unset, .unset] [(.int (0 : Int32)), (.ref aw)]))
  refine Ends.pre (fun tt kt => XS.iloadN X24.here hx rfl (hb hby at_8) rfl kt) ?_
  show Ends p e below _ (T24.setTop (mkF m 9 #[.val (.int w0), .val (.int w1), .val (.int w2), .val (.int w3), .val (.int bb), .val (.int sel), .val (.ref aw), .unset, .unset, .unset, .unset, .unset, .unset, .unset, .unset, .unset, .unset, .unset, .unset] [(.int w0), (.int (0 : Int32)), (.ref aw)]))
  refine Ends.pre (fun tt kt => XS.i2dS X24.here hx rfl (v := (FP.i2d w0)) (hb hby at_9) rfl rfl kt) ?_
  show Ends p e below _ (T24.setTop (mkF m 10 #[.val (.int w0), .val (.int w1), .val (.int w2), .val (.int w3), .val (.int bb), .val (.int sel), .val (.ref aw), .unset, .unset, .unset, .unset, .unset, .unset, .unset, .unset, .unset, .unset, .unset, .unset] [(.double (FP.i2d w0)), (.int (0 : Int32)), (.ref aw)]))
  obtain ⟨cl25, Ar25, qa25, sa25, na25, ha25, ga25⟩ := V_aw
  have hin25 : ¬ ((0 : Int32) < 0 ∨ cl25.slots.size ≤ ((0 : Int32)).toNatClampNeg) := inb_of sa25 ⟨by decide, by decide⟩
  obtain ⟨T25, h25, X25, e25, W25, st25⟩ := stD X24 hx hZ e24 Ar25 (j := (0 : Int32)) hin25 (g := (mkF m 10 #[.val (.int w0), .val (.int w1), .val (.int w2), .val (.int w3), .val (.int bb), .val (.int sel), .val (.ref aw), .unset, .unset, .unset, .unset, .unset, .unset, .unset, .unset, .unset, .unset, .unset, .unset] [(.double (FP.i2d w0)), (.int (0 : Int32)), (.ref aw)])) rfl rfl (hb hby at_10)
  have Z0 := Nat.le_trans Z0 (Keep.of_wr W25).1
  have V_aw : Arv Z h25 aw k24 .double (5 : Int32) [(.double (FP.i2d w0)), (.double 0), (.double 0), (.double 0), (.double 0)] (.double 0) := Arv.set Ar25 qa25 sa25 na25 ha25 ga25 rfl W25 0 rfl (Nat.le_of_ble_eq_true rfl)
  have N25 := Fr.snoc X25 N0 g_aw
  refine Ends.pre (fun tt kt => st25 _ kt) ?_
  show Ends p e below _ (T25.setTop (mkF m 11 #[.val (.int w0), .val (.int w1), .val (.int w2), .val (.int w3), .val (.int bb), .val (.int sel), .val (.ref aw), .unset, .unset, .unset, .unset, .unset, .unset, .unset, .unset, .unset, .unset, .unset, .unset] []))
  refine Ends.pre (fun tt kt => XS.aload X25.here hx rfl (hb hby at_11) rfl rfl kt) ?_
  show Ends p e below _ (T25.setTop (mkF m 13 #[.val (.int w0), .val (.int w1), .val (.int w2), .val (.int w3), .val (.int bb), .val (.int sel), .val (.ref aw), .unset, .unset, .unset, .unset, .unset, .unset, .unset, .unset, .unset, .unset, .unset, .unset] [(.ref aw)]))
  refine Ends.pre (fun tt kt => XS.iconst X25.here hx rfl (hb hby at_13) kt) ?_
  show Ends p e below _ (T25.setTop (mkF m 14 #[.val (.int w0), .val (.int w1), .val (.int w2), .val (.int w3), .val (.int bb), .val (.int sel), .val (.ref aw), .unset, .unset, .unset, .unset, .unset, .unset, .unset, .unset, .unset, .unset, .unset, .unset] [(.int (1 : Int32)), (.ref aw)]))
  refine Ends.pre (fun tt kt => XS.iloadN X25.here hx rfl (hb hby at_14) rfl kt) ?_
  show Ends p e below _ (T25.setTop (mkF m 15 #[.val (.int w0), .val (.int w1), .val (.int w2), .val (.int w3), .val (.int bb), .val (.int sel), .val (.ref aw), .unset, .unset, .unset, .unset, .unset, .unset, .unset, .unset, .unset, .unset, .unset, .unset] [(.int w1), (.int (1 : Int32)), (.ref aw)]))
  refine Ends.pre (fun tt kt => XS.i2dS X25.here hx rfl (v := (FP.i2d w1)) (hb hby at_15) rfl rfl kt) ?_
  show Ends p e below _ (T25.setTop (mkF m 16 #[.val (.int w0), .val (.int w1), .val (.int w2), .val (.int w3), .val (.int bb), .val (.int sel), .val (.ref aw), .unset, .unset, .unset, .unset, .unset, .unset, .unset, .unset, .unset, .unset, .unset, .unset] [(.double (FP.i2d w1)), (.int (1 : Int32)), (.ref aw)]))
  obtain ⟨cl26, Ar26, qa26, sa26, na26, ha26, ga26⟩ := V_aw
  have hin26 : ¬ ((1 : Int32) < 0 ∨ cl26.slots.size ≤ ((1 : Int32)).toNatClampNeg) := inb_of sa26 ⟨by decide, by decide⟩
  obtain ⟨T26, h26, X26, e26, W26, st26⟩ := stD X25 hx hZ e25 Ar26 (j := (1 : Int32)) hin26 (g := (mkF m 16 #[.val (.int w0), .val (.int w1), .val (.int w2), .val (.int w3), .val (.int bb), .val (.int sel), .val (.ref aw), .unset, .unset, .unset, .unset, .unset, .unset, .unset, .unset, .unset, .unset, .unset, .unset] [(.double (FP.i2d w1)), (.int (1 : Int32)), (.ref aw)])) rfl rfl (hb hby at_16)
  have Z0 := Nat.le_trans Z0 (Keep.of_wr W26).1
  have V_aw : Arv Z h26 aw k24 .double (5 : Int32) [(.double (FP.i2d w0)), (.double (FP.i2d w1)), (.double 0), (.double 0), (.double 0)] (.double 0) := Arv.set Ar26 qa26 sa26 na26 ha26 ga26 rfl W26 1 rfl (Nat.le_of_ble_eq_true rfl)
  have N26 := Fr.snoc X26 N25 g_aw
  refine Ends.pre (fun tt kt => st26 _ kt) ?_
  show Ends p e below _ (T26.setTop (mkF m 17 #[.val (.int w0), .val (.int w1), .val (.int w2), .val (.int w3), .val (.int bb), .val (.int sel), .val (.ref aw), .unset, .unset, .unset, .unset, .unset, .unset, .unset, .unset, .unset, .unset, .unset, .unset] []))
  refine Ends.pre (fun tt kt => XS.aload X26.here hx rfl (hb hby at_17) rfl rfl kt) ?_
  show Ends p e below _ (T26.setTop (mkF m 19 #[.val (.int w0), .val (.int w1), .val (.int w2), .val (.int w3), .val (.int bb), .val (.int sel), .val (.ref aw), .unset, .unset, .unset, .unset, .unset, .unset, .unset, .unset, .unset, .unset, .unset, .unset] [(.ref aw)]))
  refine Ends.pre (fun tt kt => XS.iconst X26.here hx rfl (hb hby at_19) kt) ?_
  show Ends p e below _ (T26.setTop (mkF m 20 #[.val (.int w0), .val (.int w1), .val (.int w2), .val (.int w3), .val (.int bb), .val (.int sel), .val (.ref aw), .unset, .unset, .unset, .unset, .unset, .unset, .unset, .unset, .unset, .unset, .unset, .unset] [(.int (2 : Int32)), (.ref aw)]))
  refine Ends.pre (fun tt kt => XS.iloadN X26.here hx rfl (hb hby at_20) rfl kt) ?_
  show Ends p e below _ (T26.setTop (mkF m 21 #[.val (.int w0), .val (.int w1), .val (.int w2), .val (.int w3), .val (.int bb), .val (.int sel), .val (.ref aw), .unset, .unset, .unset, .unset, .unset, .unset, .unset, .unset, .unset, .unset, .unset, .unset] [(.int w2), (.int (2 : Int32)), (.ref aw)]))
  refine Ends.pre (fun tt kt => XS.i2dS X26.here hx rfl (v := (FP.i2d w2)) (hb hby at_21) rfl rfl kt) ?_
  show Ends p e below _ (T26.setTop (mkF m 22 #[.val (.int w0), .val (.int w1), .val (.int w2), .val (.int w3), .val (.int bb), .val (.int sel), .val (.ref aw), .unset, .unset, .unset, .unset, .unset, .unset, .unset, .unset, .unset, .unset, .unset, .unset] [(.double (FP.i2d w2)), (.int (2 : Int32)), (.ref aw)]))
  obtain ⟨cl27, Ar27, qa27, sa27, na27, ha27, ga27⟩ := V_aw
  have hin27 : ¬ ((2 : Int32) < 0 ∨ cl27.slots.size ≤ ((2 : Int32)).toNatClampNeg) := inb_of sa27 ⟨by decide, by decide⟩
  obtain ⟨T27, h27, X27, e27, W27, st27⟩ := stD X26 hx hZ e26 Ar27 (j := (2 : Int32)) hin27 (g := (mkF m 22 #[.val (.int w0), .val (.int w1), .val (.int w2), .val (.int w3), .val (.int bb), .val (.int sel), .val (.ref aw), .unset, .unset, .unset, .unset, .unset, .unset, .unset, .unset, .unset, .unset, .unset, .unset] [(.double (FP.i2d w2)), (.int (2 : Int32)), (.ref aw)])) rfl rfl (hb hby at_22)
  have Z0 := Nat.le_trans Z0 (Keep.of_wr W27).1
  have V_aw : Arv Z h27 aw k24 .double (5 : Int32) [(.double (FP.i2d w0)), (.double (FP.i2d w1)), (.double (FP.i2d w2)), (.double 0), (.double 0)] (.double 0) := Arv.set Ar27 qa27 sa27 na27 ha27 ga27 rfl W27 2 rfl (Nat.le_of_ble_eq_true rfl)
  have N27 := Fr.snoc X27 N26 g_aw
  refine Ends.pre (fun tt kt => st27 _ kt) ?_
  show Ends p e below _ (T27.setTop (mkF m 23 #[.val (.int w0), .val (.int w1), .val (.int w2), .val (.int w3), .val (.int bb), .val (.int sel), .val (.ref aw), .unset, .unset, .unset, .unset, .unset, .unset, .unset, .unset, .unset, .unset, .unset, .unset] []))
  refine Ends.pre (fun tt kt => XS.aload X27.here hx rfl (hb hby at_23) rfl rfl kt) ?_
  show Ends p e below _ (T27.setTop (mkF m 25 #[.val (.int w0), .val (.int w1), .val (.int w2), .val (.int w3), .val (.int bb), .val (.int sel), .val (.ref aw), .unset, .unset, .unset, .unset, .unset, .unset, .unset, .unset, .unset, .unset, .unset, .unset] [(.ref aw)]))
  refine Ends.pre (fun tt kt => XS.iconst X27.here hx rfl (hb hby at_25) kt) ?_
  show Ends p e below _ (T27.setTop (mkF m 26 #[.val (.int w0), .val (.int w1), .val (.int w2), .val (.int w3), .val (.int bb), .val (.int sel), .val (.ref aw), .unset, .unset, .unset, .unset, .unset, .unset, .unset, .unset, .unset, .unset, .unset, .unset] [(.int (3 : Int32)), (.ref aw)]))
  refine Ends.pre (fun tt kt => XS.iloadN X27.here hx rfl (hb hby at_26) rfl kt) ?_
  show Ends p e below _ (T27.setTop (mkF m 27 #[.val (.int w0), .val (.int w1), .val (.int w2), .val (.int w3), .val (.int bb), .val (.int sel), .val (.ref aw), .unset, .unset, .unset, .unset, .unset, .unset, .unset, .unset, .unset, .unset, .unset, .unset] [(.int w3), (.int (3 : Int32)), (.ref aw)]))
  refine Ends.pre (fun tt kt => XS.i2dS X27.here hx rfl (v := (FP.i2d w3)) (hb hby at_27) rfl rfl kt) ?_
  show Ends p e below _ (T27.setTop (mkF m 28 #[.val (.int w0), .val (.int w1), .val (.int w2), .val (.int w3), .val (.int bb), .val (.int sel), .val (.ref aw), .unset, .unset, .unset, .unset, .unset, .unset, .unset, .unset, .unset, .unset, .unset, .unset] [(.double (FP.i2d w3)), (.int (3 : Int32)), (.ref aw)]))
  obtain ⟨cl28, Ar28, qa28, sa28, na28, ha28, ga28⟩ := V_aw
  have hin28 : ¬ ((3 : Int32) < 0 ∨ cl28.slots.size ≤ ((3 : Int32)).toNatClampNeg) := inb_of sa28 ⟨by decide, by decide⟩
  obtain ⟨T28, h28, X28, e28, W28, st28⟩ := stD X27 hx hZ e27 Ar28 (j := (3 : Int32)) hin28 (g := (mkF m 28 #[.val (.int w0), .val (.int w1), .val (.int w2), .val (.int w3), .val (.int bb), .val (.int sel), .val (.ref aw), .unset, .unset, .unset, .unset, .unset, .unset, .unset, .unset, .unset, .unset, .unset, .unset] [(.double (FP.i2d w3)), (.int (3 : Int32)), (.ref aw)])) rfl rfl (hb hby at_28)
  have Z0 := Nat.le_trans Z0 (Keep.of_wr W28).1
  have V_aw : Arv Z h28 aw k24 .double (5 : Int32) [(.double (FP.i2d w0)), (.double (FP.i2d w1)), (.double (FP.i2d w2)), (.double (FP.i2d w3)), (.double 0)] (.double 0) := Arv.set Ar28 qa28 sa28 na28 ha28 ga28 rfl W28 3 rfl (Nat.le_of_ble_eq_true rfl)
  have N28 := Fr.snoc X28 N27 g_aw
  refine Ends.pre (fun tt kt => st28 _ kt) ?_
  show Ends p e below _ (T28.setTop (mkF m 29 #[.val (.int w0), .val (.int w1), .val (.int w2), .val (.int w3), .val (.int bb), .val (.int sel), .val (.ref aw), .unset, .unset, .unset, .unset, .unset, .unset, .unset, .unset, .unset, .unset, .unset, .unset] []))
  refine Ends.pre (fun tt kt => XS.aload X28.here hx rfl (hb hby at_29) rfl rfl kt) ?_
  show Ends p e below _ (T28.setTop (mkF m 31 #[.val (.int w0), .val (.int w1), .val (.int w2), .val (.int w3), .val (.int bb), .val (.int sel), .val (.ref aw), .unset, .unset, .unset, .unset, .unset, .unset, .unset, .unset, .unset, .unset, .unset, .unset] [(.ref aw)]))
  refine Ends.pre (fun tt kt => XS.iconst X28.here hx rfl (hb hby at_31) kt) ?_
  show Ends p e below _ (T28.setTop (mkF m 32 #[.val (.int w0), .val (.int w1), .val (.int w2), .val (.int w3), .val (.int bb), .val (.int sel), .val (.ref aw), .unset, .unset, .unset, .unset, .unset, .unset, .unset, .unset, .unset, .unset, .unset, .unset] [(.int (4 : Int32)), (.ref aw)]))
  refine Ends.pre (fun tt kt => XS.iload X28.here hx rfl (hb hby at_32) rfl kt) ?_
  show Ends p e below _ (T28.setTop (mkF m 34 #[.val (.int w0), .val (.int w1), .val (.int w2), .val (.int w3), .val (.int bb), .val (.int sel), .val (.ref aw), .unset, .unset, .unset, .unset, .unset, .unset, .unset, .unset, .unset, .unset, .unset, .unset] [(.int bb), (.int (4 : Int32)), (.ref aw)]))
  refine Ends.pre (fun tt kt => XS.i2dS X28.here hx rfl (v := (FP.i2d bb)) (hb hby at_34) rfl rfl kt) ?_
  show Ends p e below _ (T28.setTop (mkF m 35 #[.val (.int w0), .val (.int w1), .val (.int w2), .val (.int w3), .val (.int bb), .val (.int sel), .val (.ref aw), .unset, .unset, .unset, .unset, .unset, .unset, .unset, .unset, .unset, .unset, .unset, .unset] [(.double (FP.i2d bb)), (.int (4 : Int32)), (.ref aw)]))
  obtain ⟨cl29, Ar29, qa29, sa29, na29, ha29, ga29⟩ := V_aw
  have hin29 : ¬ ((4 : Int32) < 0 ∨ cl29.slots.size ≤ ((4 : Int32)).toNatClampNeg) := inb_of sa29 ⟨by decide, by decide⟩
  obtain ⟨T29, h29, X29, e29, W29, st29⟩ := stD X28 hx hZ e28 Ar29 (j := (4 : Int32)) hin29 (g := (mkF m 35 #[.val (.int w0), .val (.int w1), .val (.int w2), .val (.int w3), .val (.int bb), .val (.int sel), .val (.ref aw), .unset, .unset, .unset, .unset, .unset, .unset, .unset, .unset, .unset, .unset, .unset, .unset] [(.double (FP.i2d bb)), (.int (4 : Int32)), (.ref aw)])) rfl rfl (hb hby at_35)
  have Z0 := Nat.le_trans Z0 (Keep.of_wr W29).1
  have V_aw : Arv Z h29 aw k24 .double (5 : Int32) [(.double (FP.i2d w0)), (.double (FP.i2d w1)), (.double (FP.i2d w2)), (.double (FP.i2d w3)), (.double (FP.i2d bb))] (.double 0) := Arv.set Ar29 qa29 sa29 na29 ha29 ga29 rfl W29 4 rfl (Nat.le_of_ble_eq_true rfl)
  have N29 := Fr.snoc X29 N28 g_aw
  refine Ends.pre (fun tt kt => st29 _ kt) ?_
  show Ends p e below _ (T29.setTop (mkF m 36 #[.val (.int w0), .val (.int w1), .val (.int w2), .val (.int w3), .val (.int bb), .val (.int sel), .val (.ref aw), .unset, .unset, .unset, .unset, .unset, .unset, .unset, .unset, .unset, .unset, .unset, .unset] []))
  have J331 : ∀ (b0 b1 b2 b3 rv : Int32), (b0 = 0 ∨ b0 = 1) → (b1 = 0 ∨ b1 = 1) → (b2 = 0 ∨ b2 = 1) → (b3 = 0 ∨ b3 = 1) → (rv = 0 ∨ rv = 1) → ∀ (T : State) (h : Heap) (locs : List Loc) (ax : Addr) (kX : ClassId), Stand p l e room_1 s m #[(.int w0), (.int w1), (.int w2), (.int w3), (.int bb), (.int sel)] below meth c T locs 2 9 → T.heap = h → Fr n0 locs → n0 ≤ h.size → n0 ≤ ax → aw ≠ ax → Arv Z h aw k24 .double (5 : Int32) [(.double (FP.i2d w0)), (.double (FP.i2d w1)), (.double (FP.i2d w2)), (.double (FP.i2d w3)), (.double (FP.i2d bb))] (.double 0) → Arv Z h ax kX .int (own_n b0 b1 b2 b3) (own_v4 b0 b1 b2 b3 rv (own_n b0 b1 b2 b3)) (.int 0) → ∀ (kk : Int32) (rf : Int64), rf = (own_r b3 (own_r b2 (own_r b1 (own_r b0 (bb.toInt64) (w0.toInt64)) (w1.toInt64)) (w2.toInt64)) (w3.toInt64)) → Ends p e below (fun t o => ∃ v L, o = .returned v ∧ Q0 Z w0 w1 w2 w3 bb sel h0 n0 v t.heap L ∧ FrameEnd s o t L room_1.cells room_1.slots) (T.setTop (mkF m 331 #[.val (.int w0), .val (.int w1), .val (.int w2), .val (.int w3), .val (.int bb), .val (.int sel), .val (.ref aw), .val (.int b0), .val (.int b1), .val (.int b2), .val (.int b3), .val (.int rv), .val (.int (own_n b0 b1 b2 b3)), .val (.ref ax), .val (.int kk), .val (.long rf), .second, .unset, .unset] [])) := by
    intro b0 b1 b2 b3 rv hb0 hb1 hb2 hb3 hrv T h locs ax kX X eT N Zh g_ax ne_aw_ax V_aw V_ax kk rf hrf
    obtain ⟨x0, x1, x2, x3, hE, ⟨q0, q1, q2, q3⟩, hS⟩ := own_fin hb0 hb1 hb2 hb3 hrv
    rw [hE] at V_ax
    have rB : -2147483648 ≤ (bb.toInt64).toInt ∧ (bb.toInt64).toInt < 2147483648 := by rw [c_i2l]; exact rng32 bb
    obtain ⟨a1, a2, a3, a4⟩ := own_sums rB (own_Wr w0 w1 w2 w3 x0) (own_Wr w0 w1 w2 w3 x1) (own_Wr w0 w1 w2 w3 x2) (own_Wr w0 w1 w2 w3 x3)
    have aE := own_accE (n := (own_n b0 b1 b2 b3)) rB (own_Wr w0 w1 w2 w3 x0) (own_Wr w0 w1 w2 w3 x1) (own_Wr w0 w1 w2 w3 x2) (own_Wr w0 w1 w2 w3 x3)
    rw [← i2d_w bb] at a1 a2 a3 a4 aE
    rw [hS (own_W w0 w1 w2 w3) (bb.toInt64)] at aE
    have aF : own_acc (own_n b0 b1 b2 b3) (FP.i2d bb) (FP.l2d (own_W w0 w1 w2 w3 x0)) (FP.l2d (own_W w0 w1 w2 w3 x1)) (FP.l2d (own_W w0 w1 w2 w3 x2)) (FP.l2d (own_W w0 w1 w2 w3 x3)) = FP.l2d rf := aE.trans (congrArg FP.l2d hrf.symm)
    show Ends p e below _ (T.setTop (mkF m 331 #[.val (.int w0), .val (.int w1), .val (.int w2), .val (.int w3), .val (.int bb), .val (.int sel), .val (.ref aw), .val (.int b0), .val (.int b1), .val (.int b2), .val (.int b3), .val (.int rv), .val (.int (own_n b0 b1 b2 b3)), .val (.ref ax), .val (.int kk), .val (.long rf), .second, .unset, .unset] []))
    refine Ends.pre (fun tt kt => XS.aload X.here hx rfl (hb hby at_331) rfl rfl kt) ?_
    show Ends p e below _ (T.setTop (mkF m 333 #[.val (.int w0), .val (.int w1), .val (.int w2), .val (.int w3), .val (.int bb), .val (.int sel), .val (.ref aw), .val (.int b0), .val (.int b1), .val (.int b2), .val (.int b3), .val (.int rv), .val (.int (own_n b0 b1 b2 b3)), .val (.ref ax), .val (.int kk), .val (.long rf), .second, .unset, .unset] [(.ref ax)]))
    refine Ends.pre (fun tt kt => XS.aload X.here hx rfl (hb hby at_333) rfl rfl kt) ?_
    show Ends p e below _ (T.setTop (mkF m 335 #[.val (.int w0), .val (.int w1), .val (.int w2), .val (.int w3), .val (.int bb), .val (.int sel), .val (.ref aw), .val (.int b0), .val (.int b1), .val (.int b2), .val (.int b3), .val (.int rv), .val (.int (own_n b0 b1 b2 b3)), .val (.ref ax), .val (.int kk), .val (.long rf), .second, .unset, .unset] [(.ref aw), (.ref ax)]))
    obtain ⟨_, _, ⟨T30, L30, k30, n30⟩, -, X30, ⟨Lc30, hQ30, l30, y30, z30⟩, st30⟩ := Jvm.LawKit.callS X hx (y := (⟨"com/example/haku/haku/triage/LogisticRegression", "logOdds", "([I[D)D"⟩ : MethodName)) hown (mvT hZ (hw _ (List.mem_of_getElem? (i := 2) rfl))) (mvT hZ (hw _ (List.mem_of_getElem? (i := 3) rfl))) (mvT hZ (hw _ (List.mem_of_getElem? (i := 4) rfl))) (mvT hZ (hw _ (List.mem_of_getElem? (i := 5) rfl))) (by decide) (backOf (W := 0) (rm3 l Z a0 hw [] ax aw kX k24 (own_n b0 b1 b2 b3) x0 x1 x2 x3 (FP.i2d w0) (FP.i2d w1) (FP.i2d w2) (FP.i2d w3) (FP.i2d bb) (FP.l2d (own_W w0 w1 w2 w3 x0)) (FP.l2d (own_W w0 w1 w2 w3 x1)) (FP.l2d (own_W w0 w1 w2 w3 x2)) (FP.l2d (own_W w0 w1 w2 w3 x3)) h n0 Zh V_ax V_aw (own_nr hb0 hb1 hb2 hb3) ⟨(own_pick (w0 := w0) (w1 := w1) (w2 := w2) (w3 := w3) (bb := bb) q0).1, (own_pick (w0 := w0) (w1 := w1) (w2 := w2) (w3 := w3) (bb := bb) q0).2.1⟩ ⟨(own_pick (w0 := w0) (w1 := w1) (w2 := w2) (w3 := w3) (bb := bb) q1).1, (own_pick (w0 := w0) (w1 := w1) (w2 := w2) (w3 := w3) (bb := bb) q1).2.1⟩ ⟨(own_pick (w0 := w0) (w1 := w1) (w2 := w2) (w3 := w3) (bb := bb) q2).1, (own_pick (w0 := w0) (w1 := w1) (w2 := w2) (w3 := w3) (bb := bb) q2).2.1⟩ ⟨(own_pick (w0 := w0) (w1 := w1) (w2 := w2) (w3 := w3) (bb := bb) q3).1, (own_pick (w0 := w0) (w1 := w1) (w2 := w2) (w3 := w3) (bb := bb) q3).2.1⟩ (own_pick q0).2.2 (own_pick q1).2.2 (own_pick q2).2.2 (own_pick q3).2.2 (own_nnl a1) (own_nnl a2) (own_nnl a3) (own_nnl a4)) hZ (hw _ (List.mem_of_getElem? (i := 5) rfl)) (hw _ (List.mem_of_getElem? (i := 4) rfl)) (by decide) (by decide)) (g := (mkF m 335 #[.val (.int w0), .val (.int w1), .val (.int w2), .val (.int w3), .val (.int bb), .val (.int sel), .val (.ref aw), .val (.int b0), .val (.int b1), .val (.int b2), .val (.int b3), .val (.int rv), .val (.int (own_n b0 b1 b2 b3)), .val (.ref ax), .val (.int kk), .val (.long rf), .second, .unset, .unset] [(.ref aw), (.ref ax)])) rfl (by rw [hml]; rfl) (argsL := [(.ref ax), (.ref aw)]) (rest := []) (lenOf pd0_0 rfl) rfl (by show 2 * 0 + _ ≤ _; exact Nat.le_of_eq rfl) (hb hby at_335) (fun _ _ => ⟨rfl, eT, (show (2 : Nat) + (0 : Nat) ≤ _ from by decide), (show (9 : Nat) + (0 : Nat) ≤ _ from by decide)⟩)
    dsimp only [Pt.U, Pt.locs, Pt.cells, Pt.slots] at X30 l30 y30 z30 st30 hQ30
    subst l30 y30 z30
    obtain ⟨rfl, N30q, e30⟩ := hQ30
    have N30 := Fr.app N N30q
    refine Ends.pre (fun tt kt => st30 _ kt) ?_
    show Ends p e below _ (T30.setTop (mkF m 338 #[.val (.int w0), .val (.int w1), .val (.int w2), .val (.int w3), .val (.int bb), .val (.int sel), .val (.ref aw), .val (.int b0), .val (.int b1), .val (.int b2), .val (.int b3), .val (.int rv), .val (.int (own_n b0 b1 b2 b3)), .val (.ref ax), .val (.int kk), .val (.long rf), .second, .unset, .unset] [(.double (own_acc (own_n b0 b1 b2 b3) (FP.i2d bb) (FP.l2d (own_W w0 w1 w2 w3 x0)) (FP.l2d (own_W w0 w1 w2 w3 x1)) (FP.l2d (own_W w0 w1 w2 w3 x2)) (FP.l2d (own_W w0 w1 w2 w3 x3))))]))
    rw [aF]
    show Ends p e below _ (T30.setTop (mkF m 338 #[.val (.int w0), .val (.int w1), .val (.int w2), .val (.int w3), .val (.int bb), .val (.int sel), .val (.ref aw), .val (.int b0), .val (.int b1), .val (.int b2), .val (.int b3), .val (.int rv), .val (.int (own_n b0 b1 b2 b3)), .val (.ref ax), .val (.int kk), .val (.long rf), .second, .unset, .unset] [(.double (FP.l2d rf))]))
    refine Ends.pre (fun tt kt => XS.dstore X30.here hx rfl (hb hby at_338) rfl (l' := #[.val (.int w0), .val (.int w1), .val (.int w2), .val (.int w3), .val (.int bb), .val (.int sel), .val (.ref aw), .val (.int b0), .val (.int b1), .val (.int b2), .val (.int b3), .val (.int rv), .val (.int (own_n b0 b1 b2 b3)), .val (.ref ax), .val (.int kk), .val (.long rf), .second, .val (.double (FP.l2d rf)), .second]) rfl kt) ?_
    show Ends p e below _ (T30.setTop (mkF m 340 #[.val (.int w0), .val (.int w1), .val (.int w2), .val (.int w3), .val (.int bb), .val (.int sel), .val (.ref aw), .val (.int b0), .val (.int b1), .val (.int b2), .val (.int b3), .val (.int rv), .val (.int (own_n b0 b1 b2 b3)), .val (.ref ax), .val (.int kk), .val (.long rf), .second, .val (.double (FP.l2d rf)), .second] []))
    refine Ends.pre (fun tt kt => XS.dload X30.here hx rfl (hb hby at_340) rfl kt) ?_
    show Ends p e below _ (T30.setTop (mkF m 342 #[.val (.int w0), .val (.int w1), .val (.int w2), .val (.int w3), .val (.int bb), .val (.int sel), .val (.ref aw), .val (.int b0), .val (.int b1), .val (.int b2), .val (.int b3), .val (.int rv), .val (.int (own_n b0 b1 b2 b3)), .val (.ref ax), .val (.int kk), .val (.long rf), .second, .val (.double (FP.l2d rf)), .second] [(.double (FP.l2d rf))]))
    refine Ends.pre (fun tt kt => XS.lload X30.here hx rfl (hb hby at_342) rfl kt) ?_
    show Ends p e below _ (T30.setTop (mkF m 344 #[.val (.int w0), .val (.int w1), .val (.int w2), .val (.int w3), .val (.int bb), .val (.int sel), .val (.ref aw), .val (.int b0), .val (.int b1), .val (.int b2), .val (.int b3), .val (.int rv), .val (.int (own_n b0 b1 b2 b3)), .val (.ref ax), .val (.int kk), .val (.long rf), .second, .val (.double (FP.l2d rf)), .second] [(.long rf), (.double (FP.l2d rf))]))
    refine Ends.pre (fun tt kt => XS.l2dS X30.here hx rfl (v := (FP.l2d rf)) (hb hby at_344) rfl rfl kt) ?_
    show Ends p e below _ (T30.setTop (mkF m 345 #[.val (.int w0), .val (.int w1), .val (.int w2), .val (.int w3), .val (.int bb), .val (.int sel), .val (.ref aw), .val (.int b0), .val (.int b1), .val (.int b2), .val (.int b3), .val (.int rv), .val (.int (own_n b0 b1 b2 b3)), .val (.ref ax), .val (.int kk), .val (.long rf), .second, .val (.double (FP.l2d rf)), .second] [(.double (FP.l2d rf)), (.double (FP.l2d rf))]))
    refine Ends.pre (fun tt kt => XS.dcmpS X30.here hx rfl (v := (0 : Int32)) (hb hby at_345) rfl (dcmpV_self (Jvm.Free.Fl.l2d_fin rf).noNaN .l) kt) ?_
    show Ends p e below _ (T30.setTop (mkF m 346 #[.val (.int w0), .val (.int w1), .val (.int w2), .val (.int w3), .val (.int bb), .val (.int sel), .val (.ref aw), .val (.int b0), .val (.int b1), .val (.int b2), .val (.int b3), .val (.int rv), .val (.int (own_n b0 b1 b2 b3)), .val (.ref ax), .val (.int kk), .val (.long rf), .second, .val (.double (FP.l2d rf)), .second] [(.int (0 : Int32))]))
    refine Ends.pre (fun tt kt => XS.ifNo X30.here hx rfl (hb hby at_346) rfl ((if0 _ _).trans (teq rfl).2) kt) ?_
    show Ends p e below _ (T30.setTop (mkF m 349 #[.val (.int w0), .val (.int w1), .val (.int w2), .val (.int w3), .val (.int bb), .val (.int sel), .val (.ref aw), .val (.int b0), .val (.int b1), .val (.int b2), .val (.int b3), .val (.int rv), .val (.int (own_n b0 b1 b2 b3)), .val (.ref ax), .val (.int kk), .val (.long rf), .second, .val (.double (FP.l2d rf)), .second] []))
    refine Ends.pre (fun tt kt => XS.iconst X30.here hx rfl (hb hby at_349) kt) ?_
    show Ends p e below _ (T30.setTop (mkF m 350 #[.val (.int w0), .val (.int w1), .val (.int w2), .val (.int w3), .val (.int bb), .val (.int sel), .val (.ref aw), .val (.int b0), .val (.int b1), .val (.int b2), .val (.int b3), .val (.int rv), .val (.int (own_n b0 b1 b2 b3)), .val (.ref ax), .val (.int kk), .val (.long rf), .second, .val (.double (FP.l2d rf)), .second] [(.int (1 : Int32))]))
    refine Ends.pre (fun tt kt => XS.goto X30.here hx rfl (pc0 := 350) (pc' := 354) rfl (hb hby at_350) (by decide) (by decide) kt) ?_
    show Ends p e below _ (T30.setTop (mkF m 354 #[.val (.int w0), .val (.int w1), .val (.int w2), .val (.int w3), .val (.int bb), .val (.int sel), .val (.ref aw), .val (.int b0), .val (.int b1), .val (.int b2), .val (.int b3), .val (.int rv), .val (.int (own_n b0 b1 b2 b3)), .val (.ref ax), .val (.int kk), .val (.long rf), .second, .val (.double (FP.l2d rf)), .second] [(.int (1 : Int32))]))
    obtain ⟨fs, hr, hrun, hended, hW, hsame⟩ := X30.leave (v := some (.int (1 : Int32))) (fun h => by rw [Bd.returns] at h; cases h)
    refine ⟨_, _, retN X30 hx (t := .boolean) Bd.returns (by simp) (hb hby at_354) hr, hrun, hended, _, _, rfl, ?_, ⟨_, rfl⟩, hW, hsame.mono (by decide) (by decide)⟩
    show Q0 Z _ _ _ _ _ _ h0 n0 _ T30.heap _
    rw [e30]
    exact ⟨rfl, N30⟩
  have J319 : ∀ (b0 b1 b2 b3 rv : Int32), (b0 = 0 ∨ b0 = 1) → (b1 = 0 ∨ b1 = 1) → (b2 = 0 ∨ b2 = 1) → (b3 = 0 ∨ b3 = 1) → (rv = 0 ∨ rv = 1) → ∀ (T : State) (h : Heap) (locs : List Loc) (ax : Addr) (kX : ClassId), Stand p l e room_1 s m #[(.int w0), (.int w1), (.int w2), (.int w3), (.int bb), (.int sel)] below meth c T locs 2 9 → T.heap = h → Fr n0 locs → n0 ≤ h.size → n0 ≤ ax → aw ≠ ax → Arv Z h aw k24 .double (5 : Int32) [(.double (FP.i2d w0)), (.double (FP.i2d w1)), (.double (FP.i2d w2)), (.double (FP.i2d w3)), (.double (FP.i2d bb))] (.double 0) → Arv Z h ax kX .int (own_n b0 b1 b2 b3) (own_v4 b0 b1 b2 b3 rv (own_n b0 b1 b2 b3)) (.int 0) → ∀ (kk : Int32) (rf : Int64), rf = (own_r b2 (own_r b1 (own_r b0 (bb.toInt64) (w0.toInt64)) (w1.toInt64)) (w2.toInt64)) → Ends p e below (fun t o => ∃ v L, o = .returned v ∧ Q0 Z w0 w1 w2 w3 bb sel h0 n0 v t.heap L ∧ FrameEnd s o t L room_1.cells room_1.slots) (T.setTop (mkF m 319 #[.val (.int w0), .val (.int w1), .val (.int w2), .val (.int w3), .val (.int bb), .val (.int sel), .val (.ref aw), .val (.int b0), .val (.int b1), .val (.int b2), .val (.int b3), .val (.int rv), .val (.int (own_n b0 b1 b2 b3)), .val (.ref ax), .val (.int kk), .val (.long rf), .second, .unset, .unset] [])) := by
    intro b0 b1 b2 b3 rv hb0 hb1 hb2 hb3 hrv T h locs ax kX X eT N Zh g_ax ne_aw_ax V_aw V_ax kk rf hrf
    show Ends p e below _ (T.setTop (mkF m 319 #[.val (.int w0), .val (.int w1), .val (.int w2), .val (.int w3), .val (.int bb), .val (.int sel), .val (.ref aw), .val (.int b0), .val (.int b1), .val (.int b2), .val (.int b3), .val (.int rv), .val (.int (own_n b0 b1 b2 b3)), .val (.ref ax), .val (.int kk), .val (.long rf), .second, .unset, .unset] []))
    refine Ends.pre (fun tt kt => XS.iload X.here hx rfl (hb hby at_319) rfl kt) ?_
    show Ends p e below _ (T.setTop (mkF m 321 #[.val (.int w0), .val (.int w1), .val (.int w2), .val (.int w3), .val (.int bb), .val (.int sel), .val (.ref aw), .val (.int b0), .val (.int b1), .val (.int b2), .val (.int b3), .val (.int rv), .val (.int (own_n b0 b1 b2 b3)), .val (.ref ax), .val (.int kk), .val (.long rf), .second, .unset, .unset] [(.int b3)]))
    by_cases z : b3 = (0 : Int32)
    ·
      refine Ends.pre (fun tt kt => XS.ifYes X.here hx rfl (pc0 := 321) (pc' := 331) rfl (hb hby at_321) rfl ((if0 _ _).trans (teq z).1) (by decide) (by decide) kt) ?_
      show Ends p e below _ (T.setTop (mkF m 331 #[.val (.int w0), .val (.int w1), .val (.int w2), .val (.int w3), .val (.int bb), .val (.int sel), .val (.ref aw), .val (.int b0), .val (.int b1), .val (.int b2), .val (.int b3), .val (.int rv), .val (.int (own_n b0 b1 b2 b3)), .val (.ref ax), .val (.int kk), .val (.long rf), .second, .unset, .unset] []))
      exact J331 b0 b1 b2 b3 rv hb0 hb1 hb2 hb3 hrv _ _ _ ax kX (X.more (by decide) (by decide)) eT N Zh g_ax ne_aw_ax V_aw V_ax _ _ (by rw [hrf]; unfold own_r; rw [if_pos z])
    ·
      refine Ends.pre (fun tt kt => XS.ifNo X.here hx rfl (hb hby at_321) rfl ((if0 _ _).trans (feq z).1) kt) ?_
      show Ends p e below _ (T.setTop (mkF m 324 #[.val (.int w0), .val (.int w1), .val (.int w2), .val (.int w3), .val (.int bb), .val (.int sel), .val (.ref aw), .val (.int b0), .val (.int b1), .val (.int b2), .val (.int b3), .val (.int rv), .val (.int (own_n b0 b1 b2 b3)), .val (.ref ax), .val (.int kk), .val (.long rf), .second, .unset, .unset] []))
      refine Ends.pre (fun tt kt => XS.lload X.here hx rfl (hb hby at_324) rfl kt) ?_
      show Ends p e below _ (T.setTop (mkF m 326 #[.val (.int w0), .val (.int w1), .val (.int w2), .val (.int w3), .val (.int bb), .val (.int sel), .val (.ref aw), .val (.int b0), .val (.int b1), .val (.int b2), .val (.int b3), .val (.int rv), .val (.int (own_n b0 b1 b2 b3)), .val (.ref ax), .val (.int kk), .val (.long rf), .second, .unset, .unset] [(.long rf)]))
      refine Ends.pre (fun tt kt => XS.iloadN X.here hx rfl (hb hby at_326) rfl kt) ?_
      show Ends p e below _ (T.setTop (mkF m 327 #[.val (.int w0), .val (.int w1), .val (.int w2), .val (.int w3), .val (.int bb), .val (.int sel), .val (.ref aw), .val (.int b0), .val (.int b1), .val (.int b2), .val (.int b3), .val (.int rv), .val (.int (own_n b0 b1 b2 b3)), .val (.ref ax), .val (.int kk), .val (.long rf), .second, .unset, .unset] [(.int w3), (.long rf)]))
      refine Ends.pre (fun tt kt => XS.i2l X.here hx rfl (hb hby at_327) rfl kt) ?_
      show Ends p e below _ (T.setTop (mkF m 328 #[.val (.int w0), .val (.int w1), .val (.int w2), .val (.int w3), .val (.int bb), .val (.int sel), .val (.ref aw), .val (.int b0), .val (.int b1), .val (.int b2), .val (.int b3), .val (.int rv), .val (.int (own_n b0 b1 b2 b3)), .val (.ref ax), .val (.int kk), .val (.long rf), .second, .unset, .unset] [(.long (w3.toInt64)), (.long rf)]))
      refine Ends.pre (fun tt kt => XS.ladd X.here hx rfl (hb hby at_328) rfl kt) ?_
      show Ends p e below _ (T.setTop (mkF m 329 #[.val (.int w0), .val (.int w1), .val (.int w2), .val (.int w3), .val (.int bb), .val (.int sel), .val (.ref aw), .val (.int b0), .val (.int b1), .val (.int b2), .val (.int b3), .val (.int rv), .val (.int (own_n b0 b1 b2 b3)), .val (.ref ax), .val (.int kk), .val (.long rf), .second, .unset, .unset] [(.long (rf + (w3.toInt64)))]))
      refine Ends.pre (fun tt kt => XS.lstore X.here hx rfl (hb hby at_329) rfl (l' := #[.val (.int w0), .val (.int w1), .val (.int w2), .val (.int w3), .val (.int bb), .val (.int sel), .val (.ref aw), .val (.int b0), .val (.int b1), .val (.int b2), .val (.int b3), .val (.int rv), .val (.int (own_n b0 b1 b2 b3)), .val (.ref ax), .val (.int kk), .val (.long (rf + (w3.toInt64))), .second, .unset, .unset]) rfl kt) ?_
      show Ends p e below _ (T.setTop (mkF m 331 #[.val (.int w0), .val (.int w1), .val (.int w2), .val (.int w3), .val (.int bb), .val (.int sel), .val (.ref aw), .val (.int b0), .val (.int b1), .val (.int b2), .val (.int b3), .val (.int rv), .val (.int (own_n b0 b1 b2 b3)), .val (.ref ax), .val (.int kk), .val (.long (rf + (w3.toInt64))), .second, .unset, .unset] []))
      exact J331 b0 b1 b2 b3 rv hb0 hb1 hb2 hb3 hrv _ _ _ ax kX (X.more (by decide) (by decide)) eT N Zh g_ax ne_aw_ax V_aw V_ax _ _ (by rw [hrf]; simp only [own_r, if_neg z])
  have J307 : ∀ (b0 b1 b2 b3 rv : Int32), (b0 = 0 ∨ b0 = 1) → (b1 = 0 ∨ b1 = 1) → (b2 = 0 ∨ b2 = 1) → (b3 = 0 ∨ b3 = 1) → (rv = 0 ∨ rv = 1) → ∀ (T : State) (h : Heap) (locs : List Loc) (ax : Addr) (kX : ClassId), Stand p l e room_1 s m #[(.int w0), (.int w1), (.int w2), (.int w3), (.int bb), (.int sel)] below meth c T locs 2 9 → T.heap = h → Fr n0 locs → n0 ≤ h.size → n0 ≤ ax → aw ≠ ax → Arv Z h aw k24 .double (5 : Int32) [(.double (FP.i2d w0)), (.double (FP.i2d w1)), (.double (FP.i2d w2)), (.double (FP.i2d w3)), (.double (FP.i2d bb))] (.double 0) → Arv Z h ax kX .int (own_n b0 b1 b2 b3) (own_v4 b0 b1 b2 b3 rv (own_n b0 b1 b2 b3)) (.int 0) → ∀ (kk : Int32) (rf : Int64), rf = (own_r b1 (own_r b0 (bb.toInt64) (w0.toInt64)) (w1.toInt64)) → Ends p e below (fun t o => ∃ v L, o = .returned v ∧ Q0 Z w0 w1 w2 w3 bb sel h0 n0 v t.heap L ∧ FrameEnd s o t L room_1.cells room_1.slots) (T.setTop (mkF m 307 #[.val (.int w0), .val (.int w1), .val (.int w2), .val (.int w3), .val (.int bb), .val (.int sel), .val (.ref aw), .val (.int b0), .val (.int b1), .val (.int b2), .val (.int b3), .val (.int rv), .val (.int (own_n b0 b1 b2 b3)), .val (.ref ax), .val (.int kk), .val (.long rf), .second, .unset, .unset] [])) := by
    intro b0 b1 b2 b3 rv hb0 hb1 hb2 hb3 hrv T h locs ax kX X eT N Zh g_ax ne_aw_ax V_aw V_ax kk rf hrf
    show Ends p e below _ (T.setTop (mkF m 307 #[.val (.int w0), .val (.int w1), .val (.int w2), .val (.int w3), .val (.int bb), .val (.int sel), .val (.ref aw), .val (.int b0), .val (.int b1), .val (.int b2), .val (.int b3), .val (.int rv), .val (.int (own_n b0 b1 b2 b3)), .val (.ref ax), .val (.int kk), .val (.long rf), .second, .unset, .unset] []))
    refine Ends.pre (fun tt kt => XS.iload X.here hx rfl (hb hby at_307) rfl kt) ?_
    show Ends p e below _ (T.setTop (mkF m 309 #[.val (.int w0), .val (.int w1), .val (.int w2), .val (.int w3), .val (.int bb), .val (.int sel), .val (.ref aw), .val (.int b0), .val (.int b1), .val (.int b2), .val (.int b3), .val (.int rv), .val (.int (own_n b0 b1 b2 b3)), .val (.ref ax), .val (.int kk), .val (.long rf), .second, .unset, .unset] [(.int b2)]))
    by_cases z : b2 = (0 : Int32)
    ·
      refine Ends.pre (fun tt kt => XS.ifYes X.here hx rfl (pc0 := 309) (pc' := 319) rfl (hb hby at_309) rfl ((if0 _ _).trans (teq z).1) (by decide) (by decide) kt) ?_
      show Ends p e below _ (T.setTop (mkF m 319 #[.val (.int w0), .val (.int w1), .val (.int w2), .val (.int w3), .val (.int bb), .val (.int sel), .val (.ref aw), .val (.int b0), .val (.int b1), .val (.int b2), .val (.int b3), .val (.int rv), .val (.int (own_n b0 b1 b2 b3)), .val (.ref ax), .val (.int kk), .val (.long rf), .second, .unset, .unset] []))
      exact J319 b0 b1 b2 b3 rv hb0 hb1 hb2 hb3 hrv _ _ _ ax kX (X.more (by decide) (by decide)) eT N Zh g_ax ne_aw_ax V_aw V_ax _ _ (by rw [hrf]; unfold own_r; rw [if_pos z])
    ·
      refine Ends.pre (fun tt kt => XS.ifNo X.here hx rfl (hb hby at_309) rfl ((if0 _ _).trans (feq z).1) kt) ?_
      show Ends p e below _ (T.setTop (mkF m 312 #[.val (.int w0), .val (.int w1), .val (.int w2), .val (.int w3), .val (.int bb), .val (.int sel), .val (.ref aw), .val (.int b0), .val (.int b1), .val (.int b2), .val (.int b3), .val (.int rv), .val (.int (own_n b0 b1 b2 b3)), .val (.ref ax), .val (.int kk), .val (.long rf), .second, .unset, .unset] []))
      refine Ends.pre (fun tt kt => XS.lload X.here hx rfl (hb hby at_312) rfl kt) ?_
      show Ends p e below _ (T.setTop (mkF m 314 #[.val (.int w0), .val (.int w1), .val (.int w2), .val (.int w3), .val (.int bb), .val (.int sel), .val (.ref aw), .val (.int b0), .val (.int b1), .val (.int b2), .val (.int b3), .val (.int rv), .val (.int (own_n b0 b1 b2 b3)), .val (.ref ax), .val (.int kk), .val (.long rf), .second, .unset, .unset] [(.long rf)]))
      refine Ends.pre (fun tt kt => XS.iloadN X.here hx rfl (hb hby at_314) rfl kt) ?_
      show Ends p e below _ (T.setTop (mkF m 315 #[.val (.int w0), .val (.int w1), .val (.int w2), .val (.int w3), .val (.int bb), .val (.int sel), .val (.ref aw), .val (.int b0), .val (.int b1), .val (.int b2), .val (.int b3), .val (.int rv), .val (.int (own_n b0 b1 b2 b3)), .val (.ref ax), .val (.int kk), .val (.long rf), .second, .unset, .unset] [(.int w2), (.long rf)]))
      refine Ends.pre (fun tt kt => XS.i2l X.here hx rfl (hb hby at_315) rfl kt) ?_
      show Ends p e below _ (T.setTop (mkF m 316 #[.val (.int w0), .val (.int w1), .val (.int w2), .val (.int w3), .val (.int bb), .val (.int sel), .val (.ref aw), .val (.int b0), .val (.int b1), .val (.int b2), .val (.int b3), .val (.int rv), .val (.int (own_n b0 b1 b2 b3)), .val (.ref ax), .val (.int kk), .val (.long rf), .second, .unset, .unset] [(.long (w2.toInt64)), (.long rf)]))
      refine Ends.pre (fun tt kt => XS.ladd X.here hx rfl (hb hby at_316) rfl kt) ?_
      show Ends p e below _ (T.setTop (mkF m 317 #[.val (.int w0), .val (.int w1), .val (.int w2), .val (.int w3), .val (.int bb), .val (.int sel), .val (.ref aw), .val (.int b0), .val (.int b1), .val (.int b2), .val (.int b3), .val (.int rv), .val (.int (own_n b0 b1 b2 b3)), .val (.ref ax), .val (.int kk), .val (.long rf), .second, .unset, .unset] [(.long (rf + (w2.toInt64)))]))
      refine Ends.pre (fun tt kt => XS.lstore X.here hx rfl (hb hby at_317) rfl (l' := #[.val (.int w0), .val (.int w1), .val (.int w2), .val (.int w3), .val (.int bb), .val (.int sel), .val (.ref aw), .val (.int b0), .val (.int b1), .val (.int b2), .val (.int b3), .val (.int rv), .val (.int (own_n b0 b1 b2 b3)), .val (.ref ax), .val (.int kk), .val (.long (rf + (w2.toInt64))), .second, .unset, .unset]) rfl kt) ?_
      show Ends p e below _ (T.setTop (mkF m 319 #[.val (.int w0), .val (.int w1), .val (.int w2), .val (.int w3), .val (.int bb), .val (.int sel), .val (.ref aw), .val (.int b0), .val (.int b1), .val (.int b2), .val (.int b3), .val (.int rv), .val (.int (own_n b0 b1 b2 b3)), .val (.ref ax), .val (.int kk), .val (.long (rf + (w2.toInt64))), .second, .unset, .unset] []))
      exact J319 b0 b1 b2 b3 rv hb0 hb1 hb2 hb3 hrv _ _ _ ax kX (X.more (by decide) (by decide)) eT N Zh g_ax ne_aw_ax V_aw V_ax _ _ (by rw [hrf]; simp only [own_r, if_neg z])
  have J295 : ∀ (b0 b1 b2 b3 rv : Int32), (b0 = 0 ∨ b0 = 1) → (b1 = 0 ∨ b1 = 1) → (b2 = 0 ∨ b2 = 1) → (b3 = 0 ∨ b3 = 1) → (rv = 0 ∨ rv = 1) → ∀ (T : State) (h : Heap) (locs : List Loc) (ax : Addr) (kX : ClassId), Stand p l e room_1 s m #[(.int w0), (.int w1), (.int w2), (.int w3), (.int bb), (.int sel)] below meth c T locs 2 9 → T.heap = h → Fr n0 locs → n0 ≤ h.size → n0 ≤ ax → aw ≠ ax → Arv Z h aw k24 .double (5 : Int32) [(.double (FP.i2d w0)), (.double (FP.i2d w1)), (.double (FP.i2d w2)), (.double (FP.i2d w3)), (.double (FP.i2d bb))] (.double 0) → Arv Z h ax kX .int (own_n b0 b1 b2 b3) (own_v4 b0 b1 b2 b3 rv (own_n b0 b1 b2 b3)) (.int 0) → ∀ (kk : Int32) (rf : Int64), rf = (own_r b0 (bb.toInt64) (w0.toInt64)) → Ends p e below (fun t o => ∃ v L, o = .returned v ∧ Q0 Z w0 w1 w2 w3 bb sel h0 n0 v t.heap L ∧ FrameEnd s o t L room_1.cells room_1.slots) (T.setTop (mkF m 295 #[.val (.int w0), .val (.int w1), .val (.int w2), .val (.int w3), .val (.int bb), .val (.int sel), .val (.ref aw), .val (.int b0), .val (.int b1), .val (.int b2), .val (.int b3), .val (.int rv), .val (.int (own_n b0 b1 b2 b3)), .val (.ref ax), .val (.int kk), .val (.long rf), .second, .unset, .unset] [])) := by
    intro b0 b1 b2 b3 rv hb0 hb1 hb2 hb3 hrv T h locs ax kX X eT N Zh g_ax ne_aw_ax V_aw V_ax kk rf hrf
    show Ends p e below _ (T.setTop (mkF m 295 #[.val (.int w0), .val (.int w1), .val (.int w2), .val (.int w3), .val (.int bb), .val (.int sel), .val (.ref aw), .val (.int b0), .val (.int b1), .val (.int b2), .val (.int b3), .val (.int rv), .val (.int (own_n b0 b1 b2 b3)), .val (.ref ax), .val (.int kk), .val (.long rf), .second, .unset, .unset] []))
    refine Ends.pre (fun tt kt => XS.iload X.here hx rfl (hb hby at_295) rfl kt) ?_
    show Ends p e below _ (T.setTop (mkF m 297 #[.val (.int w0), .val (.int w1), .val (.int w2), .val (.int w3), .val (.int bb), .val (.int sel), .val (.ref aw), .val (.int b0), .val (.int b1), .val (.int b2), .val (.int b3), .val (.int rv), .val (.int (own_n b0 b1 b2 b3)), .val (.ref ax), .val (.int kk), .val (.long rf), .second, .unset, .unset] [(.int b1)]))
    by_cases z : b1 = (0 : Int32)
    ·
      refine Ends.pre (fun tt kt => XS.ifYes X.here hx rfl (pc0 := 297) (pc' := 307) rfl (hb hby at_297) rfl ((if0 _ _).trans (teq z).1) (by decide) (by decide) kt) ?_
      show Ends p e below _ (T.setTop (mkF m 307 #[.val (.int w0), .val (.int w1), .val (.int w2), .val (.int w3), .val (.int bb), .val (.int sel), .val (.ref aw), .val (.int b0), .val (.int b1), .val (.int b2), .val (.int b3), .val (.int rv), .val (.int (own_n b0 b1 b2 b3)), .val (.ref ax), .val (.int kk), .val (.long rf), .second, .unset, .unset] []))
      exact J307 b0 b1 b2 b3 rv hb0 hb1 hb2 hb3 hrv _ _ _ ax kX (X.more (by decide) (by decide)) eT N Zh g_ax ne_aw_ax V_aw V_ax _ _ (by rw [hrf]; unfold own_r; rw [if_pos z])
    ·
      refine Ends.pre (fun tt kt => XS.ifNo X.here hx rfl (hb hby at_297) rfl ((if0 _ _).trans (feq z).1) kt) ?_
      show Ends p e below _ (T.setTop (mkF m 300 #[.val (.int w0), .val (.int w1), .val (.int w2), .val (.int w3), .val (.int bb), .val (.int sel), .val (.ref aw), .val (.int b0), .val (.int b1), .val (.int b2), .val (.int b3), .val (.int rv), .val (.int (own_n b0 b1 b2 b3)), .val (.ref ax), .val (.int kk), .val (.long rf), .second, .unset, .unset] []))
      refine Ends.pre (fun tt kt => XS.lload X.here hx rfl (hb hby at_300) rfl kt) ?_
      show Ends p e below _ (T.setTop (mkF m 302 #[.val (.int w0), .val (.int w1), .val (.int w2), .val (.int w3), .val (.int bb), .val (.int sel), .val (.ref aw), .val (.int b0), .val (.int b1), .val (.int b2), .val (.int b3), .val (.int rv), .val (.int (own_n b0 b1 b2 b3)), .val (.ref ax), .val (.int kk), .val (.long rf), .second, .unset, .unset] [(.long rf)]))
      refine Ends.pre (fun tt kt => XS.iloadN X.here hx rfl (hb hby at_302) rfl kt) ?_
      show Ends p e below _ (T.setTop (mkF m 303 #[.val (.int w0), .val (.int w1), .val (.int w2), .val (.int w3), .val (.int bb), .val (.int sel), .val (.ref aw), .val (.int b0), .val (.int b1), .val (.int b2), .val (.int b3), .val (.int rv), .val (.int (own_n b0 b1 b2 b3)), .val (.ref ax), .val (.int kk), .val (.long rf), .second, .unset, .unset] [(.int w1), (.long rf)]))
      refine Ends.pre (fun tt kt => XS.i2l X.here hx rfl (hb hby at_303) rfl kt) ?_
      show Ends p e below _ (T.setTop (mkF m 304 #[.val (.int w0), .val (.int w1), .val (.int w2), .val (.int w3), .val (.int bb), .val (.int sel), .val (.ref aw), .val (.int b0), .val (.int b1), .val (.int b2), .val (.int b3), .val (.int rv), .val (.int (own_n b0 b1 b2 b3)), .val (.ref ax), .val (.int kk), .val (.long rf), .second, .unset, .unset] [(.long (w1.toInt64)), (.long rf)]))
      refine Ends.pre (fun tt kt => XS.ladd X.here hx rfl (hb hby at_304) rfl kt) ?_
      show Ends p e below _ (T.setTop (mkF m 305 #[.val (.int w0), .val (.int w1), .val (.int w2), .val (.int w3), .val (.int bb), .val (.int sel), .val (.ref aw), .val (.int b0), .val (.int b1), .val (.int b2), .val (.int b3), .val (.int rv), .val (.int (own_n b0 b1 b2 b3)), .val (.ref ax), .val (.int kk), .val (.long rf), .second, .unset, .unset] [(.long (rf + (w1.toInt64)))]))
      refine Ends.pre (fun tt kt => XS.lstore X.here hx rfl (hb hby at_305) rfl (l' := #[.val (.int w0), .val (.int w1), .val (.int w2), .val (.int w3), .val (.int bb), .val (.int sel), .val (.ref aw), .val (.int b0), .val (.int b1), .val (.int b2), .val (.int b3), .val (.int rv), .val (.int (own_n b0 b1 b2 b3)), .val (.ref ax), .val (.int kk), .val (.long (rf + (w1.toInt64))), .second, .unset, .unset]) rfl kt) ?_
      show Ends p e below _ (T.setTop (mkF m 307 #[.val (.int w0), .val (.int w1), .val (.int w2), .val (.int w3), .val (.int bb), .val (.int sel), .val (.ref aw), .val (.int b0), .val (.int b1), .val (.int b2), .val (.int b3), .val (.int rv), .val (.int (own_n b0 b1 b2 b3)), .val (.ref ax), .val (.int kk), .val (.long (rf + (w1.toInt64))), .second, .unset, .unset] []))
      exact J307 b0 b1 b2 b3 rv hb0 hb1 hb2 hb3 hrv _ _ _ ax kX (X.more (by decide) (by decide)) eT N Zh g_ax ne_aw_ax V_aw V_ax _ _ (by rw [hrf]; simp only [own_r, if_neg z])
  have J278 : ∀ (b0 b1 b2 b3 rv : Int32), (b0 = 0 ∨ b0 = 1) → (b1 = 0 ∨ b1 = 1) → (b2 = 0 ∨ b2 = 1) → (b3 = 0 ∨ b3 = 1) → (rv = 0 ∨ rv = 1) → ∀ (T : State) (h : Heap) (locs : List Loc) (ax : Addr) (kX : ClassId), Stand p l e room_1 s m #[(.int w0), (.int w1), (.int w2), (.int w3), (.int bb), (.int sel)] below meth c T locs 2 9 → T.heap = h → Fr n0 locs → n0 ≤ h.size → n0 ≤ ax → aw ≠ ax → Arv Z h aw k24 .double (5 : Int32) [(.double (FP.i2d w0)), (.double (FP.i2d w1)), (.double (FP.i2d w2)), (.double (FP.i2d w3)), (.double (FP.i2d bb))] (.double 0) → Arv Z h ax kX .int (own_n b0 b1 b2 b3) (own_v4 b0 b1 b2 b3 rv (own_n b0 b1 b2 b3)) (.int 0) → ∀ (kk : Int32), Ends p e below (fun t o => ∃ v L, o = .returned v ∧ Q0 Z w0 w1 w2 w3 bb sel h0 n0 v t.heap L ∧ FrameEnd s o t L room_1.cells room_1.slots) (T.setTop (mkF m 278 #[.val (.int w0), .val (.int w1), .val (.int w2), .val (.int w3), .val (.int bb), .val (.int sel), .val (.ref aw), .val (.int b0), .val (.int b1), .val (.int b2), .val (.int b3), .val (.int rv), .val (.int (own_n b0 b1 b2 b3)), .val (.ref ax), .val (.int kk), .unset, .unset, .unset, .unset] [])) := by
    intro b0 b1 b2 b3 rv hb0 hb1 hb2 hb3 hrv T h locs ax kX X eT N Zh g_ax ne_aw_ax V_aw V_ax kk
    show Ends p e below _ (T.setTop (mkF m 278 #[.val (.int w0), .val (.int w1), .val (.int w2), .val (.int w3), .val (.int bb), .val (.int sel), .val (.ref aw), .val (.int b0), .val (.int b1), .val (.int b2), .val (.int b3), .val (.int rv), .val (.int (own_n b0 b1 b2 b3)), .val (.ref ax), .val (.int kk), .unset, .unset, .unset, .unset] []))
    refine Ends.pre (fun tt kt => XS.iload X.here hx rfl (hb hby at_278) rfl kt) ?_
    show Ends p e below _ (T.setTop (mkF m 280 #[.val (.int w0), .val (.int w1), .val (.int w2), .val (.int w3), .val (.int bb), .val (.int sel), .val (.ref aw), .val (.int b0), .val (.int b1), .val (.int b2), .val (.int b3), .val (.int rv), .val (.int (own_n b0 b1 b2 b3)), .val (.ref ax), .val (.int kk), .unset, .unset, .unset, .unset] [(.int bb)]))
    refine Ends.pre (fun tt kt => XS.i2l X.here hx rfl (hb hby at_280) rfl kt) ?_
    show Ends p e below _ (T.setTop (mkF m 281 #[.val (.int w0), .val (.int w1), .val (.int w2), .val (.int w3), .val (.int bb), .val (.int sel), .val (.ref aw), .val (.int b0), .val (.int b1), .val (.int b2), .val (.int b3), .val (.int rv), .val (.int (own_n b0 b1 b2 b3)), .val (.ref ax), .val (.int kk), .unset, .unset, .unset, .unset] [(.long (bb.toInt64))]))
    refine Ends.pre (fun tt kt => XS.lstore X.here hx rfl (hb hby at_281) rfl (l' := #[.val (.int w0), .val (.int w1), .val (.int w2), .val (.int w3), .val (.int bb), .val (.int sel), .val (.ref aw), .val (.int b0), .val (.int b1), .val (.int b2), .val (.int b3), .val (.int rv), .val (.int (own_n b0 b1 b2 b3)), .val (.ref ax), .val (.int kk), .val (.long (bb.toInt64)), .second, .unset, .unset]) rfl kt) ?_
    show Ends p e below _ (T.setTop (mkF m 283 #[.val (.int w0), .val (.int w1), .val (.int w2), .val (.int w3), .val (.int bb), .val (.int sel), .val (.ref aw), .val (.int b0), .val (.int b1), .val (.int b2), .val (.int b3), .val (.int rv), .val (.int (own_n b0 b1 b2 b3)), .val (.ref ax), .val (.int kk), .val (.long (bb.toInt64)), .second, .unset, .unset] []))
    refine Ends.pre (fun tt kt => XS.iload X.here hx rfl (hb hby at_283) rfl kt) ?_
    show Ends p e below _ (T.setTop (mkF m 285 #[.val (.int w0), .val (.int w1), .val (.int w2), .val (.int w3), .val (.int bb), .val (.int sel), .val (.ref aw), .val (.int b0), .val (.int b1), .val (.int b2), .val (.int b3), .val (.int rv), .val (.int (own_n b0 b1 b2 b3)), .val (.ref ax), .val (.int kk), .val (.long (bb.toInt64)), .second, .unset, .unset] [(.int b0)]))
    by_cases z : b0 = (0 : Int32)
    ·
      refine Ends.pre (fun tt kt => XS.ifYes X.here hx rfl (pc0 := 285) (pc' := 295) rfl (hb hby at_285) rfl ((if0 _ _).trans (teq z).1) (by decide) (by decide) kt) ?_
      show Ends p e below _ (T.setTop (mkF m 295 #[.val (.int w0), .val (.int w1), .val (.int w2), .val (.int w3), .val (.int bb), .val (.int sel), .val (.ref aw), .val (.int b0), .val (.int b1), .val (.int b2), .val (.int b3), .val (.int rv), .val (.int (own_n b0 b1 b2 b3)), .val (.ref ax), .val (.int kk), .val (.long (bb.toInt64)), .second, .unset, .unset] []))
      exact J295 b0 b1 b2 b3 rv hb0 hb1 hb2 hb3 hrv _ _ _ ax kX (X.more (by decide) (by decide)) eT N Zh g_ax ne_aw_ax V_aw V_ax _ _ (by unfold own_r; rw [if_pos z])
    ·
      refine Ends.pre (fun tt kt => XS.ifNo X.here hx rfl (hb hby at_285) rfl ((if0 _ _).trans (feq z).1) kt) ?_
      show Ends p e below _ (T.setTop (mkF m 288 #[.val (.int w0), .val (.int w1), .val (.int w2), .val (.int w3), .val (.int bb), .val (.int sel), .val (.ref aw), .val (.int b0), .val (.int b1), .val (.int b2), .val (.int b3), .val (.int rv), .val (.int (own_n b0 b1 b2 b3)), .val (.ref ax), .val (.int kk), .val (.long (bb.toInt64)), .second, .unset, .unset] []))
      refine Ends.pre (fun tt kt => XS.lload X.here hx rfl (hb hby at_288) rfl kt) ?_
      show Ends p e below _ (T.setTop (mkF m 290 #[.val (.int w0), .val (.int w1), .val (.int w2), .val (.int w3), .val (.int bb), .val (.int sel), .val (.ref aw), .val (.int b0), .val (.int b1), .val (.int b2), .val (.int b3), .val (.int rv), .val (.int (own_n b0 b1 b2 b3)), .val (.ref ax), .val (.int kk), .val (.long (bb.toInt64)), .second, .unset, .unset] [(.long (bb.toInt64))]))
      refine Ends.pre (fun tt kt => XS.iloadN X.here hx rfl (hb hby at_290) rfl kt) ?_
      show Ends p e below _ (T.setTop (mkF m 291 #[.val (.int w0), .val (.int w1), .val (.int w2), .val (.int w3), .val (.int bb), .val (.int sel), .val (.ref aw), .val (.int b0), .val (.int b1), .val (.int b2), .val (.int b3), .val (.int rv), .val (.int (own_n b0 b1 b2 b3)), .val (.ref ax), .val (.int kk), .val (.long (bb.toInt64)), .second, .unset, .unset] [(.int w0), (.long (bb.toInt64))]))
      refine Ends.pre (fun tt kt => XS.i2l X.here hx rfl (hb hby at_291) rfl kt) ?_
      show Ends p e below _ (T.setTop (mkF m 292 #[.val (.int w0), .val (.int w1), .val (.int w2), .val (.int w3), .val (.int bb), .val (.int sel), .val (.ref aw), .val (.int b0), .val (.int b1), .val (.int b2), .val (.int b3), .val (.int rv), .val (.int (own_n b0 b1 b2 b3)), .val (.ref ax), .val (.int kk), .val (.long (bb.toInt64)), .second, .unset, .unset] [(.long (w0.toInt64)), (.long (bb.toInt64))]))
      refine Ends.pre (fun tt kt => XS.ladd X.here hx rfl (hb hby at_292) rfl kt) ?_
      show Ends p e below _ (T.setTop (mkF m 293 #[.val (.int w0), .val (.int w1), .val (.int w2), .val (.int w3), .val (.int bb), .val (.int sel), .val (.ref aw), .val (.int b0), .val (.int b1), .val (.int b2), .val (.int b3), .val (.int rv), .val (.int (own_n b0 b1 b2 b3)), .val (.ref ax), .val (.int kk), .val (.long (bb.toInt64)), .second, .unset, .unset] [(.long ((bb.toInt64) + (w0.toInt64)))]))
      refine Ends.pre (fun tt kt => XS.lstore X.here hx rfl (hb hby at_293) rfl (l' := #[.val (.int w0), .val (.int w1), .val (.int w2), .val (.int w3), .val (.int bb), .val (.int sel), .val (.ref aw), .val (.int b0), .val (.int b1), .val (.int b2), .val (.int b3), .val (.int rv), .val (.int (own_n b0 b1 b2 b3)), .val (.ref ax), .val (.int kk), .val (.long ((bb.toInt64) + (w0.toInt64))), .second, .unset, .unset]) rfl kt) ?_
      show Ends p e below _ (T.setTop (mkF m 295 #[.val (.int w0), .val (.int w1), .val (.int w2), .val (.int w3), .val (.int bb), .val (.int sel), .val (.ref aw), .val (.int b0), .val (.int b1), .val (.int b2), .val (.int b3), .val (.int rv), .val (.int (own_n b0 b1 b2 b3)), .val (.ref ax), .val (.int kk), .val (.long ((bb.toInt64) + (w0.toInt64))), .second, .unset, .unset] []))
      exact J295 b0 b1 b2 b3 rv hb0 hb1 hb2 hb3 hrv _ _ _ ax kX (X.more (by decide) (by decide)) eT N Zh g_ax ne_aw_ax V_aw V_ax _ _ (by unfold own_r; rw [if_neg z])
  have J249 : ∀ (b0 b1 b2 b3 rv : Int32), (b0 = 0 ∨ b0 = 1) → (b1 = 0 ∨ b1 = 1) → (b2 = 0 ∨ b2 = 1) → (b3 = 0 ∨ b3 = 1) → (rv = 0 ∨ rv = 1) → ∀ (T : State) (h : Heap) (locs : List Loc) (ax : Addr) (kX : ClassId), Stand p l e room_1 s m #[(.int w0), (.int w1), (.int w2), (.int w3), (.int bb), (.int sel)] below meth c T locs 2 9 → T.heap = h → Fr n0 locs → n0 ≤ h.size → n0 ≤ ax → aw ≠ ax → Arv Z h aw k24 .double (5 : Int32) [(.double (FP.i2d w0)), (.double (FP.i2d w1)), (.double (FP.i2d w2)), (.double (FP.i2d w3)), (.double (FP.i2d bb))] (.double 0) → Arv Z h ax kX .int (own_n b0 b1 b2 b3) (own_v3 b0 b1 b2 rv (own_n b0 b1 b2 b3)) (.int 0) → ∀ (kk : Int32), kk = ((((0 : Int32) + b0) + b1) + b2) → Ends p e below (fun t o => ∃ v L, o = .returned v ∧ Q0 Z w0 w1 w2 w3 bb sel h0 n0 v t.heap L ∧ FrameEnd s o t L room_1.cells room_1.slots) (T.setTop (mkF m 249 #[.val (.int w0), .val (.int w1), .val (.int w2), .val (.int w3), .val (.int bb), .val (.int sel), .val (.ref aw), .val (.int b0), .val (.int b1), .val (.int b2), .val (.int b3), .val (.int rv), .val (.int (own_n b0 b1 b2 b3)), .val (.ref ax), .val (.int kk), .unset, .unset, .unset, .unset] [])) := by
    intro b0 b1 b2 b3 rv hb0 hb1 hb2 hb3 hrv T h locs ax kX X eT N Zh g_ax ne_aw_ax V_aw V_ax kk hkk
    subst hkk
    show Ends p e below _ (T.setTop (mkF m 249 #[.val (.int w0), .val (.int w1), .val (.int w2), .val (.int w3), .val (.int bb), .val (.int sel), .val (.ref aw), .val (.int b0), .val (.int b1), .val (.int b2), .val (.int b3), .val (.int rv), .val (.int (own_n b0 b1 b2 b3)), .val (.ref ax), .val (.int ((((0 : Int32) + b0) + b1) + b2)), .unset, .unset, .unset, .unset] []))
    refine Ends.pre (fun tt kt => XS.iload X.here hx rfl (hb hby at_249) rfl kt) ?_
    show Ends p e below _ (T.setTop (mkF m 251 #[.val (.int w0), .val (.int w1), .val (.int w2), .val (.int w3), .val (.int bb), .val (.int sel), .val (.ref aw), .val (.int b0), .val (.int b1), .val (.int b2), .val (.int b3), .val (.int rv), .val (.int (own_n b0 b1 b2 b3)), .val (.ref ax), .val (.int ((((0 : Int32) + b0) + b1) + b2)), .unset, .unset, .unset, .unset] [(.int b3)]))
    by_cases z : b3 = (0 : Int32)
    ·
      refine Ends.pre (fun tt kt => XS.ifYes X.here hx rfl (pc0 := 251) (pc' := 278) rfl (hb hby at_251) rfl ((if0 _ _).trans (teq z).1) (by decide) (by decide) kt) ?_
      show Ends p e below _ (T.setTop (mkF m 278 #[.val (.int w0), .val (.int w1), .val (.int w2), .val (.int w3), .val (.int bb), .val (.int sel), .val (.ref aw), .val (.int b0), .val (.int b1), .val (.int b2), .val (.int b3), .val (.int rv), .val (.int (own_n b0 b1 b2 b3)), .val (.ref ax), .val (.int ((((0 : Int32) + b0) + b1) + b2)), .unset, .unset, .unset, .unset] []))
      have V_ax : Arv Z h ax kX .int (own_n b0 b1 b2 b3) (own_v4 b0 b1 b2 b3 rv (own_n b0 b1 b2 b3)) (.int 0) := by show Arv _ _ _ _ _ _ (own_e _ _ _ _ _ _) _; rw [own_e, if_pos z]; exact V_ax
      exact J278 b0 b1 b2 b3 rv hb0 hb1 hb2 hb3 hrv _ _ _ ax kX (X.more (by decide) (by decide)) eT N Zh g_ax ne_aw_ax V_aw V_ax _
    ·
      refine Ends.pre (fun tt kt => XS.ifNo X.here hx rfl (hb hby at_251) rfl ((if0 _ _).trans (feq z).1) kt) ?_
      show Ends p e below _ (T.setTop (mkF m 254 #[.val (.int w0), .val (.int w1), .val (.int w2), .val (.int w3), .val (.int bb), .val (.int sel), .val (.ref aw), .val (.int b0), .val (.int b1), .val (.int b2), .val (.int b3), .val (.int rv), .val (.int (own_n b0 b1 b2 b3)), .val (.ref ax), .val (.int ((((0 : Int32) + b0) + b1) + b2)), .unset, .unset, .unset, .unset] []))
      refine Ends.pre (fun tt kt => XS.aload X.here hx rfl (hb hby at_254) rfl rfl kt) ?_
      show Ends p e below _ (T.setTop (mkF m 256 #[.val (.int w0), .val (.int w1), .val (.int w2), .val (.int w3), .val (.int bb), .val (.int sel), .val (.ref aw), .val (.int b0), .val (.int b1), .val (.int b2), .val (.int b3), .val (.int rv), .val (.int (own_n b0 b1 b2 b3)), .val (.ref ax), .val (.int ((((0 : Int32) + b0) + b1) + b2)), .unset, .unset, .unset, .unset] [(.ref ax)]))
      refine Ends.pre (fun tt kt => XS.iload X.here hx rfl (hb hby at_256) rfl kt) ?_
      show Ends p e below _ (T.setTop (mkF m 258 #[.val (.int w0), .val (.int w1), .val (.int w2), .val (.int w3), .val (.int bb), .val (.int sel), .val (.ref aw), .val (.int b0), .val (.int b1), .val (.int b2), .val (.int b3), .val (.int rv), .val (.int (own_n b0 b1 b2 b3)), .val (.ref ax), .val (.int ((((0 : Int32) + b0) + b1) + b2)), .unset, .unset, .unset, .unset] [(.int rv), (.ref ax)]))
      by_cases zr : rv = (0 : Int32)
      ·
        refine Ends.pre (fun tt kt => XS.ifYes X.here hx rfl (pc0 := 258) (pc' := 271) rfl (hb hby at_258) rfl ((if0 _ _).trans (teq zr).1) (by decide) (by decide) kt) ?_
        show Ends p e below _ (T.setTop (mkF m 271 #[.val (.int w0), .val (.int w1), .val (.int w2), .val (.int w3), .val (.int bb), .val (.int sel), .val (.ref aw), .val (.int b0), .val (.int b1), .val (.int b2), .val (.int b3), .val (.int rv), .val (.int (own_n b0 b1 b2 b3)), .val (.ref ax), .val (.int ((((0 : Int32) + b0) + b1) + b2)), .unset, .unset, .unset, .unset] [(.ref ax)]))
        refine Ends.pre (fun tt kt => XS.iload X.here hx rfl (hb hby at_271) rfl kt) ?_
        show Ends p e below _ (T.setTop (mkF m 273 #[.val (.int w0), .val (.int w1), .val (.int w2), .val (.int w3), .val (.int bb), .val (.int sel), .val (.ref aw), .val (.int b0), .val (.int b1), .val (.int b2), .val (.int b3), .val (.int rv), .val (.int (own_n b0 b1 b2 b3)), .val (.ref ax), .val (.int ((((0 : Int32) + b0) + b1) + b2)), .unset, .unset, .unset, .unset] [(.int ((((0 : Int32) + b0) + b1) + b2)), (.ref ax)]))
        refine Ends.pre (fun tt kt => XS.iconst X.here hx rfl (hb hby at_273) kt) ?_
        show Ends p e below _ (T.setTop (mkF m 274 #[.val (.int w0), .val (.int w1), .val (.int w2), .val (.int w3), .val (.int bb), .val (.int sel), .val (.ref aw), .val (.int b0), .val (.int b1), .val (.int b2), .val (.int b3), .val (.int rv), .val (.int (own_n b0 b1 b2 b3)), .val (.ref ax), .val (.int ((((0 : Int32) + b0) + b1) + b2)), .unset, .unset, .unset, .unset] [(.int (3 : Int32)), (.int ((((0 : Int32) + b0) + b1) + b2)), (.ref ax)]))
        obtain ⟨cl31, Ar31, qa31, sa31, na31, ha31, ga31⟩ := V_ax
        have hin31 : ¬ (((((0 : Int32) + b0) + b1) + b2) < 0 ∨ cl31.slots.size ≤ (((((0 : Int32) + b0) + b1) + b2)).toNatClampNeg) := inb_of sa31 ⟨(own_ia3 (rv := rv) hb0 hb1 hb2 hb3 z).1, (own_ia3 (rv := rv) hb0 hb1 hb2 hb3 z).2.1⟩
        obtain ⟨T31, h31, X31, e31, W31, st31⟩ := stI X hx hZ eT Ar31 (j := ((((0 : Int32) + b0) + b1) + b2)) hin31 (g := (mkF m 274 #[.val (.int w0), .val (.int w1), .val (.int w2), .val (.int w3), .val (.int bb), .val (.int sel), .val (.ref aw), .val (.int b0), .val (.int b1), .val (.int b2), .val (.int b3), .val (.int rv), .val (.int (own_n b0 b1 b2 b3)), .val (.ref ax), .val (.int ((((0 : Int32) + b0) + b1) + b2)), .unset, .unset, .unset, .unset] [(.int (3 : Int32)), (.int ((((0 : Int32) + b0) + b1) + b2)), (.ref ax)])) rfl rfl (hb hby at_274)
        have V_aw := V_aw.other W31 (ne_aw_ax : aw ≠ ax)
        have Zh := Nat.le_trans Zh (Keep.of_wr W31).1
        have V_ax : Arv Z h31 ax kX .int (own_n b0 b1 b2 b3) (List.set (own_v3 b0 b1 b2 rv (own_n b0 b1 b2 b3)) (((((0 : Int32) + b0) + b1) + b2)).toNatClampNeg (.int 3)) (.int 0) := Arv.set Ar31 qa31 sa31 na31 ha31 ga31 rfl W31 (((((0 : Int32) + b0) + b1) + b2)).toNatClampNeg rfl (by rw [own_l3]; exact (own_ia3 (rv := rv) hb0 hb1 hb2 hb3 z).2.2)
        have N31 := Fr.snoc X31 N g_ax
        refine Ends.pre (fun tt kt => st31 _ kt) ?_
        show Ends p e below _ (T31.setTop (mkF m 275 #[.val (.int w0), .val (.int w1), .val (.int w2), .val (.int w3), .val (.int bb), .val (.int sel), .val (.ref aw), .val (.int b0), .val (.int b1), .val (.int b2), .val (.int b3), .val (.int rv), .val (.int (own_n b0 b1 b2 b3)), .val (.ref ax), .val (.int ((((0 : Int32) + b0) + b1) + b2)), .unset, .unset, .unset, .unset] []))
        refine Ends.pre (fun tt kt => XS.iinc X31.here hx rfl (hb hby at_275) rfl (l' := #[.val (.int w0), .val (.int w1), .val (.int w2), .val (.int w3), .val (.int bb), .val (.int sel), .val (.ref aw), .val (.int b0), .val (.int b1), .val (.int b2), .val (.int b3), .val (.int rv), .val (.int (own_n b0 b1 b2 b3)), .val (.ref ax), .val (.int (((((0 : Int32) + b0) + b1) + b2) + (1 : Int32))), .unset, .unset, .unset, .unset]) rfl kt) ?_
        show Ends p e below _ (T31.setTop (mkF m 278 #[.val (.int w0), .val (.int w1), .val (.int w2), .val (.int w3), .val (.int bb), .val (.int sel), .val (.ref aw), .val (.int b0), .val (.int b1), .val (.int b2), .val (.int b3), .val (.int rv), .val (.int (own_n b0 b1 b2 b3)), .val (.ref ax), .val (.int (((((0 : Int32) + b0) + b1) + b2) + (1 : Int32))), .unset, .unset, .unset, .unset] []))
        have V_ax : Arv Z h31 ax kX .int (own_n b0 b1 b2 b3) (own_v4 b0 b1 b2 b3 rv (own_n b0 b1 b2 b3)) (.int 0) := by show Arv _ _ _ _ _ _ (own_e _ _ _ _ _ _) _; rw [own_e, if_neg z, if_pos zr]; exact V_ax
        exact J278 b0 b1 b2 b3 rv hb0 hb1 hb2 hb3 hrv _ _ _ ax kX (X31.more (by decide) (by decide)) e31 N31 Zh g_ax ne_aw_ax V_aw V_ax _
      ·
        refine Ends.pre (fun tt kt => XS.ifNo X.here hx rfl (hb hby at_258) rfl ((if0 _ _).trans (feq zr).1) kt) ?_
        show Ends p e below _ (T.setTop (mkF m 261 #[.val (.int w0), .val (.int w1), .val (.int w2), .val (.int w3), .val (.int bb), .val (.int sel), .val (.ref aw), .val (.int b0), .val (.int b1), .val (.int b2), .val (.int b3), .val (.int rv), .val (.int (own_n b0 b1 b2 b3)), .val (.ref ax), .val (.int ((((0 : Int32) + b0) + b1) + b2)), .unset, .unset, .unset, .unset] [(.ref ax)]))
        refine Ends.pre (fun tt kt => XS.iload X.here hx rfl (hb hby at_261) rfl kt) ?_
        show Ends p e below _ (T.setTop (mkF m 263 #[.val (.int w0), .val (.int w1), .val (.int w2), .val (.int w3), .val (.int bb), .val (.int sel), .val (.ref aw), .val (.int b0), .val (.int b1), .val (.int b2), .val (.int b3), .val (.int rv), .val (.int (own_n b0 b1 b2 b3)), .val (.ref ax), .val (.int ((((0 : Int32) + b0) + b1) + b2)), .unset, .unset, .unset, .unset] [(.int (own_n b0 b1 b2 b3)), (.ref ax)]))
        refine Ends.pre (fun tt kt => XS.iconst X.here hx rfl (hb hby at_263) kt) ?_
        show Ends p e below _ (T.setTop (mkF m 264 #[.val (.int w0), .val (.int w1), .val (.int w2), .val (.int w3), .val (.int bb), .val (.int sel), .val (.ref aw), .val (.int b0), .val (.int b1), .val (.int b2), .val (.int b3), .val (.int rv), .val (.int (own_n b0 b1 b2 b3)), .val (.ref ax), .val (.int ((((0 : Int32) + b0) + b1) + b2)), .unset, .unset, .unset, .unset] [(.int (1 : Int32)), (.int (own_n b0 b1 b2 b3)), (.ref ax)]))
        refine Ends.pre (fun tt kt => XS.isub X.here hx rfl (hb hby at_264) rfl kt) ?_
        show Ends p e below _ (T.setTop (mkF m 265 #[.val (.int w0), .val (.int w1), .val (.int w2), .val (.int w3), .val (.int bb), .val (.int sel), .val (.ref aw), .val (.int b0), .val (.int b1), .val (.int b2), .val (.int b3), .val (.int rv), .val (.int (own_n b0 b1 b2 b3)), .val (.ref ax), .val (.int ((((0 : Int32) + b0) + b1) + b2)), .unset, .unset, .unset, .unset] [(.int ((own_n b0 b1 b2 b3) - (1 : Int32))), (.ref ax)]))
        refine Ends.pre (fun tt kt => XS.iload X.here hx rfl (hb hby at_265) rfl kt) ?_
        show Ends p e below _ (T.setTop (mkF m 267 #[.val (.int w0), .val (.int w1), .val (.int w2), .val (.int w3), .val (.int bb), .val (.int sel), .val (.ref aw), .val (.int b0), .val (.int b1), .val (.int b2), .val (.int b3), .val (.int rv), .val (.int (own_n b0 b1 b2 b3)), .val (.ref ax), .val (.int ((((0 : Int32) + b0) + b1) + b2)), .unset, .unset, .unset, .unset] [(.int ((((0 : Int32) + b0) + b1) + b2)), (.int ((own_n b0 b1 b2 b3) - (1 : Int32))), (.ref ax)]))
        refine Ends.pre (fun tt kt => XS.isub X.here hx rfl (hb hby at_267) rfl kt) ?_
        show Ends p e below _ (T.setTop (mkF m 268 #[.val (.int w0), .val (.int w1), .val (.int w2), .val (.int w3), .val (.int bb), .val (.int sel), .val (.ref aw), .val (.int b0), .val (.int b1), .val (.int b2), .val (.int b3), .val (.int rv), .val (.int (own_n b0 b1 b2 b3)), .val (.ref ax), .val (.int ((((0 : Int32) + b0) + b1) + b2)), .unset, .unset, .unset, .unset] [(.int (((own_n b0 b1 b2 b3) - (1 : Int32)) - ((((0 : Int32) + b0) + b1) + b2))), (.ref ax)]))
        refine Ends.pre (fun tt kt => XS.goto X.here hx rfl (pc0 := 268) (pc' := 273) rfl (hb hby at_268) (by decide) (by decide) kt) ?_
        show Ends p e below _ (T.setTop (mkF m 273 #[.val (.int w0), .val (.int w1), .val (.int w2), .val (.int w3), .val (.int bb), .val (.int sel), .val (.ref aw), .val (.int b0), .val (.int b1), .val (.int b2), .val (.int b3), .val (.int rv), .val (.int (own_n b0 b1 b2 b3)), .val (.ref ax), .val (.int ((((0 : Int32) + b0) + b1) + b2)), .unset, .unset, .unset, .unset] [(.int (((own_n b0 b1 b2 b3) - (1 : Int32)) - ((((0 : Int32) + b0) + b1) + b2))), (.ref ax)]))
        refine Ends.pre (fun tt kt => XS.iconst X.here hx rfl (hb hby at_273) kt) ?_
        show Ends p e below _ (T.setTop (mkF m 274 #[.val (.int w0), .val (.int w1), .val (.int w2), .val (.int w3), .val (.int bb), .val (.int sel), .val (.ref aw), .val (.int b0), .val (.int b1), .val (.int b2), .val (.int b3), .val (.int rv), .val (.int (own_n b0 b1 b2 b3)), .val (.ref ax), .val (.int ((((0 : Int32) + b0) + b1) + b2)), .unset, .unset, .unset, .unset] [(.int (3 : Int32)), (.int (((own_n b0 b1 b2 b3) - (1 : Int32)) - ((((0 : Int32) + b0) + b1) + b2))), (.ref ax)]))
        obtain ⟨cl32, Ar32, qa32, sa32, na32, ha32, ga32⟩ := V_ax
        have hin32 : ¬ ((((own_n b0 b1 b2 b3) - (1 : Int32)) - ((((0 : Int32) + b0) + b1) + b2)) < 0 ∨ cl32.slots.size ≤ ((((own_n b0 b1 b2 b3) - (1 : Int32)) - ((((0 : Int32) + b0) + b1) + b2))).toNatClampNeg) := inb_of sa32 ⟨(own_ib3 (rv := rv) hb0 hb1 hb2 hb3 z).1, (own_ib3 (rv := rv) hb0 hb1 hb2 hb3 z).2.1⟩
        obtain ⟨T32, h32, X32, e32, W32, st32⟩ := stI X hx hZ eT Ar32 (j := (((own_n b0 b1 b2 b3) - (1 : Int32)) - ((((0 : Int32) + b0) + b1) + b2))) hin32 (g := (mkF m 274 #[.val (.int w0), .val (.int w1), .val (.int w2), .val (.int w3), .val (.int bb), .val (.int sel), .val (.ref aw), .val (.int b0), .val (.int b1), .val (.int b2), .val (.int b3), .val (.int rv), .val (.int (own_n b0 b1 b2 b3)), .val (.ref ax), .val (.int ((((0 : Int32) + b0) + b1) + b2)), .unset, .unset, .unset, .unset] [(.int (3 : Int32)), (.int (((own_n b0 b1 b2 b3) - (1 : Int32)) - ((((0 : Int32) + b0) + b1) + b2))), (.ref ax)])) rfl rfl (hb hby at_274)
        have V_aw := V_aw.other W32 (ne_aw_ax : aw ≠ ax)
        have Zh := Nat.le_trans Zh (Keep.of_wr W32).1
        have V_ax : Arv Z h32 ax kX .int (own_n b0 b1 b2 b3) (List.set (own_v3 b0 b1 b2 rv (own_n b0 b1 b2 b3)) ((((own_n b0 b1 b2 b3) - (1 : Int32)) - ((((0 : Int32) + b0) + b1) + b2))).toNatClampNeg (.int 3)) (.int 0) := Arv.set Ar32 qa32 sa32 na32 ha32 ga32 rfl W32 ((((own_n b0 b1 b2 b3) - (1 : Int32)) - ((((0 : Int32) + b0) + b1) + b2))).toNatClampNeg rfl (by rw [own_l3]; exact (own_ib3 (rv := rv) hb0 hb1 hb2 hb3 z).2.2)
        have N32 := Fr.snoc X32 N g_ax
        refine Ends.pre (fun tt kt => st32 _ kt) ?_
        show Ends p e below _ (T32.setTop (mkF m 275 #[.val (.int w0), .val (.int w1), .val (.int w2), .val (.int w3), .val (.int bb), .val (.int sel), .val (.ref aw), .val (.int b0), .val (.int b1), .val (.int b2), .val (.int b3), .val (.int rv), .val (.int (own_n b0 b1 b2 b3)), .val (.ref ax), .val (.int ((((0 : Int32) + b0) + b1) + b2)), .unset, .unset, .unset, .unset] []))
        refine Ends.pre (fun tt kt => XS.iinc X32.here hx rfl (hb hby at_275) rfl (l' := #[.val (.int w0), .val (.int w1), .val (.int w2), .val (.int w3), .val (.int bb), .val (.int sel), .val (.ref aw), .val (.int b0), .val (.int b1), .val (.int b2), .val (.int b3), .val (.int rv), .val (.int (own_n b0 b1 b2 b3)), .val (.ref ax), .val (.int (((((0 : Int32) + b0) + b1) + b2) + (1 : Int32))), .unset, .unset, .unset, .unset]) rfl kt) ?_
        show Ends p e below _ (T32.setTop (mkF m 278 #[.val (.int w0), .val (.int w1), .val (.int w2), .val (.int w3), .val (.int bb), .val (.int sel), .val (.ref aw), .val (.int b0), .val (.int b1), .val (.int b2), .val (.int b3), .val (.int rv), .val (.int (own_n b0 b1 b2 b3)), .val (.ref ax), .val (.int (((((0 : Int32) + b0) + b1) + b2) + (1 : Int32))), .unset, .unset, .unset, .unset] []))
        have V_ax : Arv Z h32 ax kX .int (own_n b0 b1 b2 b3) (own_v4 b0 b1 b2 b3 rv (own_n b0 b1 b2 b3)) (.int 0) := by show Arv _ _ _ _ _ _ (own_e _ _ _ _ _ _) _; rw [own_e, if_neg z, if_neg zr]; exact V_ax
        exact J278 b0 b1 b2 b3 rv hb0 hb1 hb2 hb3 hrv _ _ _ ax kX (X32.more (by decide) (by decide)) e32 N32 Zh g_ax ne_aw_ax V_aw V_ax _
  have J220 : ∀ (b0 b1 b2 b3 rv : Int32), (b0 = 0 ∨ b0 = 1) → (b1 = 0 ∨ b1 = 1) → (b2 = 0 ∨ b2 = 1) → (b3 = 0 ∨ b3 = 1) → (rv = 0 ∨ rv = 1) → ∀ (T : State) (h : Heap) (locs : List Loc) (ax : Addr) (kX : ClassId), Stand p l e room_1 s m #[(.int w0), (.int w1), (.int w2), (.int w3), (.int bb), (.int sel)] below meth c T locs 2 9 → T.heap = h → Fr n0 locs → n0 ≤ h.size → n0 ≤ ax → aw ≠ ax → Arv Z h aw k24 .double (5 : Int32) [(.double (FP.i2d w0)), (.double (FP.i2d w1)), (.double (FP.i2d w2)), (.double (FP.i2d w3)), (.double (FP.i2d bb))] (.double 0) → Arv Z h ax kX .int (own_n b0 b1 b2 b3) (own_v2 b0 b1 rv (own_n b0 b1 b2 b3)) (.int 0) → ∀ (kk : Int32), kk = (((0 : Int32) + b0) + b1) → Ends p e below (fun t o => ∃ v L, o = .returned v ∧ Q0 Z w0 w1 w2 w3 bb sel h0 n0 v t.heap L ∧ FrameEnd s o t L room_1.cells room_1.slots) (T.setTop (mkF m 220 #[.val (.int w0), .val (.int w1), .val (.int w2), .val (.int w3), .val (.int bb), .val (.int sel), .val (.ref aw), .val (.int b0), .val (.int b1), .val (.int b2), .val (.int b3), .val (.int rv), .val (.int (own_n b0 b1 b2 b3)), .val (.ref ax), .val (.int kk), .unset, .unset, .unset, .unset] [])) := by
    intro b0 b1 b2 b3 rv hb0 hb1 hb2 hb3 hrv T h locs ax kX X eT N Zh g_ax ne_aw_ax V_aw V_ax kk hkk
    subst hkk
    show Ends p e below _ (T.setTop (mkF m 220 #[.val (.int w0), .val (.int w1), .val (.int w2), .val (.int w3), .val (.int bb), .val (.int sel), .val (.ref aw), .val (.int b0), .val (.int b1), .val (.int b2), .val (.int b3), .val (.int rv), .val (.int (own_n b0 b1 b2 b3)), .val (.ref ax), .val (.int (((0 : Int32) + b0) + b1)), .unset, .unset, .unset, .unset] []))
    refine Ends.pre (fun tt kt => XS.iload X.here hx rfl (hb hby at_220) rfl kt) ?_
    show Ends p e below _ (T.setTop (mkF m 222 #[.val (.int w0), .val (.int w1), .val (.int w2), .val (.int w3), .val (.int bb), .val (.int sel), .val (.ref aw), .val (.int b0), .val (.int b1), .val (.int b2), .val (.int b3), .val (.int rv), .val (.int (own_n b0 b1 b2 b3)), .val (.ref ax), .val (.int (((0 : Int32) + b0) + b1)), .unset, .unset, .unset, .unset] [(.int b2)]))
    by_cases z : b2 = (0 : Int32)
    ·
      refine Ends.pre (fun tt kt => XS.ifYes X.here hx rfl (pc0 := 222) (pc' := 249) rfl (hb hby at_222) rfl ((if0 _ _).trans (teq z).1) (by decide) (by decide) kt) ?_
      show Ends p e below _ (T.setTop (mkF m 249 #[.val (.int w0), .val (.int w1), .val (.int w2), .val (.int w3), .val (.int bb), .val (.int sel), .val (.ref aw), .val (.int b0), .val (.int b1), .val (.int b2), .val (.int b3), .val (.int rv), .val (.int (own_n b0 b1 b2 b3)), .val (.ref ax), .val (.int (((0 : Int32) + b0) + b1)), .unset, .unset, .unset, .unset] []))
      have V_ax : Arv Z h ax kX .int (own_n b0 b1 b2 b3) (own_v3 b0 b1 b2 rv (own_n b0 b1 b2 b3)) (.int 0) := by show Arv _ _ _ _ _ _ (own_e _ _ _ _ _ _) _; rw [own_e, if_pos z]; exact V_ax
      exact J249 b0 b1 b2 b3 rv hb0 hb1 hb2 hb3 hrv _ _ _ ax kX (X.more (by decide) (by decide)) eT N Zh g_ax ne_aw_ax V_aw V_ax _ (by rw [z, Int32.add_zero])
    ·
      refine Ends.pre (fun tt kt => XS.ifNo X.here hx rfl (hb hby at_222) rfl ((if0 _ _).trans (feq z).1) kt) ?_
      show Ends p e below _ (T.setTop (mkF m 225 #[.val (.int w0), .val (.int w1), .val (.int w2), .val (.int w3), .val (.int bb), .val (.int sel), .val (.ref aw), .val (.int b0), .val (.int b1), .val (.int b2), .val (.int b3), .val (.int rv), .val (.int (own_n b0 b1 b2 b3)), .val (.ref ax), .val (.int (((0 : Int32) + b0) + b1)), .unset, .unset, .unset, .unset] []))
      refine Ends.pre (fun tt kt => XS.aload X.here hx rfl (hb hby at_225) rfl rfl kt) ?_
      show Ends p e below _ (T.setTop (mkF m 227 #[.val (.int w0), .val (.int w1), .val (.int w2), .val (.int w3), .val (.int bb), .val (.int sel), .val (.ref aw), .val (.int b0), .val (.int b1), .val (.int b2), .val (.int b3), .val (.int rv), .val (.int (own_n b0 b1 b2 b3)), .val (.ref ax), .val (.int (((0 : Int32) + b0) + b1)), .unset, .unset, .unset, .unset] [(.ref ax)]))
      refine Ends.pre (fun tt kt => XS.iload X.here hx rfl (hb hby at_227) rfl kt) ?_
      show Ends p e below _ (T.setTop (mkF m 229 #[.val (.int w0), .val (.int w1), .val (.int w2), .val (.int w3), .val (.int bb), .val (.int sel), .val (.ref aw), .val (.int b0), .val (.int b1), .val (.int b2), .val (.int b3), .val (.int rv), .val (.int (own_n b0 b1 b2 b3)), .val (.ref ax), .val (.int (((0 : Int32) + b0) + b1)), .unset, .unset, .unset, .unset] [(.int rv), (.ref ax)]))
      by_cases zr : rv = (0 : Int32)
      ·
        refine Ends.pre (fun tt kt => XS.ifYes X.here hx rfl (pc0 := 229) (pc' := 242) rfl (hb hby at_229) rfl ((if0 _ _).trans (teq zr).1) (by decide) (by decide) kt) ?_
        show Ends p e below _ (T.setTop (mkF m 242 #[.val (.int w0), .val (.int w1), .val (.int w2), .val (.int w3), .val (.int bb), .val (.int sel), .val (.ref aw), .val (.int b0), .val (.int b1), .val (.int b2), .val (.int b3), .val (.int rv), .val (.int (own_n b0 b1 b2 b3)), .val (.ref ax), .val (.int (((0 : Int32) + b0) + b1)), .unset, .unset, .unset, .unset] [(.ref ax)]))
        refine Ends.pre (fun tt kt => XS.iload X.here hx rfl (hb hby at_242) rfl kt) ?_
        show Ends p e below _ (T.setTop (mkF m 244 #[.val (.int w0), .val (.int w1), .val (.int w2), .val (.int w3), .val (.int bb), .val (.int sel), .val (.ref aw), .val (.int b0), .val (.int b1), .val (.int b2), .val (.int b3), .val (.int rv), .val (.int (own_n b0 b1 b2 b3)), .val (.ref ax), .val (.int (((0 : Int32) + b0) + b1)), .unset, .unset, .unset, .unset] [(.int (((0 : Int32) + b0) + b1)), (.ref ax)]))
        refine Ends.pre (fun tt kt => XS.iconst X.here hx rfl (hb hby at_244) kt) ?_
        show Ends p e below _ (T.setTop (mkF m 245 #[.val (.int w0), .val (.int w1), .val (.int w2), .val (.int w3), .val (.int bb), .val (.int sel), .val (.ref aw), .val (.int b0), .val (.int b1), .val (.int b2), .val (.int b3), .val (.int rv), .val (.int (own_n b0 b1 b2 b3)), .val (.ref ax), .val (.int (((0 : Int32) + b0) + b1)), .unset, .unset, .unset, .unset] [(.int (2 : Int32)), (.int (((0 : Int32) + b0) + b1)), (.ref ax)]))
        obtain ⟨cl33, Ar33, qa33, sa33, na33, ha33, ga33⟩ := V_ax
        have hin33 : ¬ ((((0 : Int32) + b0) + b1) < 0 ∨ cl33.slots.size ≤ ((((0 : Int32) + b0) + b1)).toNatClampNeg) := inb_of sa33 ⟨(own_ia2 (rv := rv) hb0 hb1 hb2 hb3 z).1, (own_ia2 (rv := rv) hb0 hb1 hb2 hb3 z).2.1⟩
        obtain ⟨T33, h33, X33, e33, W33, st33⟩ := stI X hx hZ eT Ar33 (j := (((0 : Int32) + b0) + b1)) hin33 (g := (mkF m 245 #[.val (.int w0), .val (.int w1), .val (.int w2), .val (.int w3), .val (.int bb), .val (.int sel), .val (.ref aw), .val (.int b0), .val (.int b1), .val (.int b2), .val (.int b3), .val (.int rv), .val (.int (own_n b0 b1 b2 b3)), .val (.ref ax), .val (.int (((0 : Int32) + b0) + b1)), .unset, .unset, .unset, .unset] [(.int (2 : Int32)), (.int (((0 : Int32) + b0) + b1)), (.ref ax)])) rfl rfl (hb hby at_245)
        have V_aw := V_aw.other W33 (ne_aw_ax : aw ≠ ax)
        have Zh := Nat.le_trans Zh (Keep.of_wr W33).1
        have V_ax : Arv Z h33 ax kX .int (own_n b0 b1 b2 b3) (List.set (own_v2 b0 b1 rv (own_n b0 b1 b2 b3)) ((((0 : Int32) + b0) + b1)).toNatClampNeg (.int 2)) (.int 0) := Arv.set Ar33 qa33 sa33 na33 ha33 ga33 rfl W33 ((((0 : Int32) + b0) + b1)).toNatClampNeg rfl (by rw [own_l2]; exact (own_ia2 (rv := rv) hb0 hb1 hb2 hb3 z).2.2)
        have N33 := Fr.snoc X33 N g_ax
        refine Ends.pre (fun tt kt => st33 _ kt) ?_
        show Ends p e below _ (T33.setTop (mkF m 246 #[.val (.int w0), .val (.int w1), .val (.int w2), .val (.int w3), .val (.int bb), .val (.int sel), .val (.ref aw), .val (.int b0), .val (.int b1), .val (.int b2), .val (.int b3), .val (.int rv), .val (.int (own_n b0 b1 b2 b3)), .val (.ref ax), .val (.int (((0 : Int32) + b0) + b1)), .unset, .unset, .unset, .unset] []))
        refine Ends.pre (fun tt kt => XS.iinc X33.here hx rfl (hb hby at_246) rfl (l' := #[.val (.int w0), .val (.int w1), .val (.int w2), .val (.int w3), .val (.int bb), .val (.int sel), .val (.ref aw), .val (.int b0), .val (.int b1), .val (.int b2), .val (.int b3), .val (.int rv), .val (.int (own_n b0 b1 b2 b3)), .val (.ref ax), .val (.int ((((0 : Int32) + b0) + b1) + (1 : Int32))), .unset, .unset, .unset, .unset]) rfl kt) ?_
        show Ends p e below _ (T33.setTop (mkF m 249 #[.val (.int w0), .val (.int w1), .val (.int w2), .val (.int w3), .val (.int bb), .val (.int sel), .val (.ref aw), .val (.int b0), .val (.int b1), .val (.int b2), .val (.int b3), .val (.int rv), .val (.int (own_n b0 b1 b2 b3)), .val (.ref ax), .val (.int ((((0 : Int32) + b0) + b1) + (1 : Int32))), .unset, .unset, .unset, .unset] []))
        have V_ax : Arv Z h33 ax kX .int (own_n b0 b1 b2 b3) (own_v3 b0 b1 b2 rv (own_n b0 b1 b2 b3)) (.int 0) := by show Arv _ _ _ _ _ _ (own_e _ _ _ _ _ _) _; rw [own_e, if_neg z, if_pos zr]; exact V_ax
        exact J249 b0 b1 b2 b3 rv hb0 hb1 hb2 hb3 hrv _ _ _ ax kX (X33.more (by decide) (by decide)) e33 N33 Zh g_ax ne_aw_ax V_aw V_ax _ (by rw [hb2.resolve_left z])
      ·
        refine Ends.pre (fun tt kt => XS.ifNo X.here hx rfl (hb hby at_229) rfl ((if0 _ _).trans (feq zr).1) kt) ?_
        show Ends p e below _ (T.setTop (mkF m 232 #[.val (.int w0), .val (.int w1), .val (.int w2), .val (.int w3), .val (.int bb), .val (.int sel), .val (.ref aw), .val (.int b0), .val (.int b1), .val (.int b2), .val (.int b3), .val (.int rv), .val (.int (own_n b0 b1 b2 b3)), .val (.ref ax), .val (.int (((0 : Int32) + b0) + b1)), .unset, .unset, .unset, .unset] [(.ref ax)]))
        refine Ends.pre (fun tt kt => XS.iload X.here hx rfl (hb hby at_232) rfl kt) ?_
        show Ends p e below _ (T.setTop (mkF m 234 #[.val (.int w0), .val (.int w1), .val (.int w2), .val (.int w3), .val (.int bb), .val (.int sel), .val (.ref aw), .val (.int b0), .val (.int b1), .val (.int b2), .val (.int b3), .val (.int rv), .val (.int (own_n b0 b1 b2 b3)), .val (.ref ax), .val (.int (((0 : Int32) + b0) + b1)), .unset, .unset, .unset, .unset] [(.int (own_n b0 b1 b2 b3)), (.ref ax)]))
        refine Ends.pre (fun tt kt => XS.iconst X.here hx rfl (hb hby at_234) kt) ?_
        show Ends p e below _ (T.setTop (mkF m 235 #[.val (.int w0), .val (.int w1), .val (.int w2), .val (.int w3), .val (.int bb), .val (.int sel), .val (.ref aw), .val (.int b0), .val (.int b1), .val (.int b2), .val (.int b3), .val (.int rv), .val (.int (own_n b0 b1 b2 b3)), .val (.ref ax), .val (.int (((0 : Int32) + b0) + b1)), .unset, .unset, .unset, .unset] [(.int (1 : Int32)), (.int (own_n b0 b1 b2 b3)), (.ref ax)]))
        refine Ends.pre (fun tt kt => XS.isub X.here hx rfl (hb hby at_235) rfl kt) ?_
        show Ends p e below _ (T.setTop (mkF m 236 #[.val (.int w0), .val (.int w1), .val (.int w2), .val (.int w3), .val (.int bb), .val (.int sel), .val (.ref aw), .val (.int b0), .val (.int b1), .val (.int b2), .val (.int b3), .val (.int rv), .val (.int (own_n b0 b1 b2 b3)), .val (.ref ax), .val (.int (((0 : Int32) + b0) + b1)), .unset, .unset, .unset, .unset] [(.int ((own_n b0 b1 b2 b3) - (1 : Int32))), (.ref ax)]))
        refine Ends.pre (fun tt kt => XS.iload X.here hx rfl (hb hby at_236) rfl kt) ?_
        show Ends p e below _ (T.setTop (mkF m 238 #[.val (.int w0), .val (.int w1), .val (.int w2), .val (.int w3), .val (.int bb), .val (.int sel), .val (.ref aw), .val (.int b0), .val (.int b1), .val (.int b2), .val (.int b3), .val (.int rv), .val (.int (own_n b0 b1 b2 b3)), .val (.ref ax), .val (.int (((0 : Int32) + b0) + b1)), .unset, .unset, .unset, .unset] [(.int (((0 : Int32) + b0) + b1)), (.int ((own_n b0 b1 b2 b3) - (1 : Int32))), (.ref ax)]))
        refine Ends.pre (fun tt kt => XS.isub X.here hx rfl (hb hby at_238) rfl kt) ?_
        show Ends p e below _ (T.setTop (mkF m 239 #[.val (.int w0), .val (.int w1), .val (.int w2), .val (.int w3), .val (.int bb), .val (.int sel), .val (.ref aw), .val (.int b0), .val (.int b1), .val (.int b2), .val (.int b3), .val (.int rv), .val (.int (own_n b0 b1 b2 b3)), .val (.ref ax), .val (.int (((0 : Int32) + b0) + b1)), .unset, .unset, .unset, .unset] [(.int (((own_n b0 b1 b2 b3) - (1 : Int32)) - (((0 : Int32) + b0) + b1))), (.ref ax)]))
        refine Ends.pre (fun tt kt => XS.goto X.here hx rfl (pc0 := 239) (pc' := 244) rfl (hb hby at_239) (by decide) (by decide) kt) ?_
        show Ends p e below _ (T.setTop (mkF m 244 #[.val (.int w0), .val (.int w1), .val (.int w2), .val (.int w3), .val (.int bb), .val (.int sel), .val (.ref aw), .val (.int b0), .val (.int b1), .val (.int b2), .val (.int b3), .val (.int rv), .val (.int (own_n b0 b1 b2 b3)), .val (.ref ax), .val (.int (((0 : Int32) + b0) + b1)), .unset, .unset, .unset, .unset] [(.int (((own_n b0 b1 b2 b3) - (1 : Int32)) - (((0 : Int32) + b0) + b1))), (.ref ax)]))
        refine Ends.pre (fun tt kt => XS.iconst X.here hx rfl (hb hby at_244) kt) ?_
        show Ends p e below _ (T.setTop (mkF m 245 #[.val (.int w0), .val (.int w1), .val (.int w2), .val (.int w3), .val (.int bb), .val (.int sel), .val (.ref aw), .val (.int b0), .val (.int b1), .val (.int b2), .val (.int b3), .val (.int rv), .val (.int (own_n b0 b1 b2 b3)), .val (.ref ax), .val (.int (((0 : Int32) + b0) + b1)), .unset, .unset, .unset, .unset] [(.int (2 : Int32)), (.int (((own_n b0 b1 b2 b3) - (1 : Int32)) - (((0 : Int32) + b0) + b1))), (.ref ax)]))
        obtain ⟨cl34, Ar34, qa34, sa34, na34, ha34, ga34⟩ := V_ax
        have hin34 : ¬ ((((own_n b0 b1 b2 b3) - (1 : Int32)) - (((0 : Int32) + b0) + b1)) < 0 ∨ cl34.slots.size ≤ ((((own_n b0 b1 b2 b3) - (1 : Int32)) - (((0 : Int32) + b0) + b1))).toNatClampNeg) := inb_of sa34 ⟨(own_ib2 (rv := rv) hb0 hb1 hb2 hb3 z).1, (own_ib2 (rv := rv) hb0 hb1 hb2 hb3 z).2.1⟩
        obtain ⟨T34, h34, X34, e34, W34, st34⟩ := stI X hx hZ eT Ar34 (j := (((own_n b0 b1 b2 b3) - (1 : Int32)) - (((0 : Int32) + b0) + b1))) hin34 (g := (mkF m 245 #[.val (.int w0), .val (.int w1), .val (.int w2), .val (.int w3), .val (.int bb), .val (.int sel), .val (.ref aw), .val (.int b0), .val (.int b1), .val (.int b2), .val (.int b3), .val (.int rv), .val (.int (own_n b0 b1 b2 b3)), .val (.ref ax), .val (.int (((0 : Int32) + b0) + b1)), .unset, .unset, .unset, .unset] [(.int (2 : Int32)), (.int (((own_n b0 b1 b2 b3) - (1 : Int32)) - (((0 : Int32) + b0) + b1))), (.ref ax)])) rfl rfl (hb hby at_245)
        have V_aw := V_aw.other W34 (ne_aw_ax : aw ≠ ax)
        have Zh := Nat.le_trans Zh (Keep.of_wr W34).1
        have V_ax : Arv Z h34 ax kX .int (own_n b0 b1 b2 b3) (List.set (own_v2 b0 b1 rv (own_n b0 b1 b2 b3)) ((((own_n b0 b1 b2 b3) - (1 : Int32)) - (((0 : Int32) + b0) + b1))).toNatClampNeg (.int 2)) (.int 0) := Arv.set Ar34 qa34 sa34 na34 ha34 ga34 rfl W34 ((((own_n b0 b1 b2 b3) - (1 : Int32)) - (((0 : Int32) + b0) + b1))).toNatClampNeg rfl (by rw [own_l2]; exact (own_ib2 (rv := rv) hb0 hb1 hb2 hb3 z).2.2)
        have N34 := Fr.snoc X34 N g_ax
        refine Ends.pre (fun tt kt => st34 _ kt) ?_
        show Ends p e below _ (T34.setTop (mkF m 246 #[.val (.int w0), .val (.int w1), .val (.int w2), .val (.int w3), .val (.int bb), .val (.int sel), .val (.ref aw), .val (.int b0), .val (.int b1), .val (.int b2), .val (.int b3), .val (.int rv), .val (.int (own_n b0 b1 b2 b3)), .val (.ref ax), .val (.int (((0 : Int32) + b0) + b1)), .unset, .unset, .unset, .unset] []))
        refine Ends.pre (fun tt kt => XS.iinc X34.here hx rfl (hb hby at_246) rfl (l' := #[.val (.int w0), .val (.int w1), .val (.int w2), .val (.int w3), .val (.int bb), .val (.int sel), .val (.ref aw), .val (.int b0), .val (.int b1), .val (.int b2), .val (.int b3), .val (.int rv), .val (.int (own_n b0 b1 b2 b3)), .val (.ref ax), .val (.int ((((0 : Int32) + b0) + b1) + (1 : Int32))), .unset, .unset, .unset, .unset]) rfl kt) ?_
        show Ends p e below _ (T34.setTop (mkF m 249 #[.val (.int w0), .val (.int w1), .val (.int w2), .val (.int w3), .val (.int bb), .val (.int sel), .val (.ref aw), .val (.int b0), .val (.int b1), .val (.int b2), .val (.int b3), .val (.int rv), .val (.int (own_n b0 b1 b2 b3)), .val (.ref ax), .val (.int ((((0 : Int32) + b0) + b1) + (1 : Int32))), .unset, .unset, .unset, .unset] []))
        have V_ax : Arv Z h34 ax kX .int (own_n b0 b1 b2 b3) (own_v3 b0 b1 b2 rv (own_n b0 b1 b2 b3)) (.int 0) := by show Arv _ _ _ _ _ _ (own_e _ _ _ _ _ _) _; rw [own_e, if_neg z, if_neg zr]; exact V_ax
        exact J249 b0 b1 b2 b3 rv hb0 hb1 hb2 hb3 hrv _ _ _ ax kX (X34.more (by decide) (by decide)) e34 N34 Zh g_ax ne_aw_ax V_aw V_ax _ (by rw [hb2.resolve_left z])
  have J191 : ∀ (b0 b1 b2 b3 rv : Int32), (b0 = 0 ∨ b0 = 1) → (b1 = 0 ∨ b1 = 1) → (b2 = 0 ∨ b2 = 1) → (b3 = 0 ∨ b3 = 1) → (rv = 0 ∨ rv = 1) → ∀ (T : State) (h : Heap) (locs : List Loc) (ax : Addr) (kX : ClassId), Stand p l e room_1 s m #[(.int w0), (.int w1), (.int w2), (.int w3), (.int bb), (.int sel)] below meth c T locs 2 9 → T.heap = h → Fr n0 locs → n0 ≤ h.size → n0 ≤ ax → aw ≠ ax → Arv Z h aw k24 .double (5 : Int32) [(.double (FP.i2d w0)), (.double (FP.i2d w1)), (.double (FP.i2d w2)), (.double (FP.i2d w3)), (.double (FP.i2d bb))] (.double 0) → Arv Z h ax kX .int (own_n b0 b1 b2 b3) (own_v1 b0 rv (own_n b0 b1 b2 b3)) (.int 0) → ∀ (kk : Int32), kk = ((0 : Int32) + b0) → Ends p e below (fun t o => ∃ v L, o = .returned v ∧ Q0 Z w0 w1 w2 w3 bb sel h0 n0 v t.heap L ∧ FrameEnd s o t L room_1.cells room_1.slots) (T.setTop (mkF m 191 #[.val (.int w0), .val (.int w1), .val (.int w2), .val (.int w3), .val (.int bb), .val (.int sel), .val (.ref aw), .val (.int b0), .val (.int b1), .val (.int b2), .val (.int b3), .val (.int rv), .val (.int (own_n b0 b1 b2 b3)), .val (.ref ax), .val (.int kk), .unset, .unset, .unset, .unset] [])) := by
    intro b0 b1 b2 b3 rv hb0 hb1 hb2 hb3 hrv T h locs ax kX X eT N Zh g_ax ne_aw_ax V_aw V_ax kk hkk
    subst hkk
    show Ends p e below _ (T.setTop (mkF m 191 #[.val (.int w0), .val (.int w1), .val (.int w2), .val (.int w3), .val (.int bb), .val (.int sel), .val (.ref aw), .val (.int b0), .val (.int b1), .val (.int b2), .val (.int b3), .val (.int rv), .val (.int (own_n b0 b1 b2 b3)), .val (.ref ax), .val (.int ((0 : Int32) + b0)), .unset, .unset, .unset, .unset] []))
    refine Ends.pre (fun tt kt => XS.iload X.here hx rfl (hb hby at_191) rfl kt) ?_
    show Ends p e below _ (T.setTop (mkF m 193 #[.val (.int w0), .val (.int w1), .val (.int w2), .val (.int w3), .val (.int bb), .val (.int sel), .val (.ref aw), .val (.int b0), .val (.int b1), .val (.int b2), .val (.int b3), .val (.int rv), .val (.int (own_n b0 b1 b2 b3)), .val (.ref ax), .val (.int ((0 : Int32) + b0)), .unset, .unset, .unset, .unset] [(.int b1)]))
    by_cases z : b1 = (0 : Int32)
    ·
      refine Ends.pre (fun tt kt => XS.ifYes X.here hx rfl (pc0 := 193) (pc' := 220) rfl (hb hby at_193) rfl ((if0 _ _).trans (teq z).1) (by decide) (by decide) kt) ?_
      show Ends p e below _ (T.setTop (mkF m 220 #[.val (.int w0), .val (.int w1), .val (.int w2), .val (.int w3), .val (.int bb), .val (.int sel), .val (.ref aw), .val (.int b0), .val (.int b1), .val (.int b2), .val (.int b3), .val (.int rv), .val (.int (own_n b0 b1 b2 b3)), .val (.ref ax), .val (.int ((0 : Int32) + b0)), .unset, .unset, .unset, .unset] []))
      have V_ax : Arv Z h ax kX .int (own_n b0 b1 b2 b3) (own_v2 b0 b1 rv (own_n b0 b1 b2 b3)) (.int 0) := by show Arv _ _ _ _ _ _ (own_e _ _ _ _ _ _) _; rw [own_e, if_pos z]; exact V_ax
      exact J220 b0 b1 b2 b3 rv hb0 hb1 hb2 hb3 hrv _ _ _ ax kX (X.more (by decide) (by decide)) eT N Zh g_ax ne_aw_ax V_aw V_ax _ (by rw [z, Int32.add_zero])
    ·
      refine Ends.pre (fun tt kt => XS.ifNo X.here hx rfl (hb hby at_193) rfl ((if0 _ _).trans (feq z).1) kt) ?_
      show Ends p e below _ (T.setTop (mkF m 196 #[.val (.int w0), .val (.int w1), .val (.int w2), .val (.int w3), .val (.int bb), .val (.int sel), .val (.ref aw), .val (.int b0), .val (.int b1), .val (.int b2), .val (.int b3), .val (.int rv), .val (.int (own_n b0 b1 b2 b3)), .val (.ref ax), .val (.int ((0 : Int32) + b0)), .unset, .unset, .unset, .unset] []))
      refine Ends.pre (fun tt kt => XS.aload X.here hx rfl (hb hby at_196) rfl rfl kt) ?_
      show Ends p e below _ (T.setTop (mkF m 198 #[.val (.int w0), .val (.int w1), .val (.int w2), .val (.int w3), .val (.int bb), .val (.int sel), .val (.ref aw), .val (.int b0), .val (.int b1), .val (.int b2), .val (.int b3), .val (.int rv), .val (.int (own_n b0 b1 b2 b3)), .val (.ref ax), .val (.int ((0 : Int32) + b0)), .unset, .unset, .unset, .unset] [(.ref ax)]))
      refine Ends.pre (fun tt kt => XS.iload X.here hx rfl (hb hby at_198) rfl kt) ?_
      show Ends p e below _ (T.setTop (mkF m 200 #[.val (.int w0), .val (.int w1), .val (.int w2), .val (.int w3), .val (.int bb), .val (.int sel), .val (.ref aw), .val (.int b0), .val (.int b1), .val (.int b2), .val (.int b3), .val (.int rv), .val (.int (own_n b0 b1 b2 b3)), .val (.ref ax), .val (.int ((0 : Int32) + b0)), .unset, .unset, .unset, .unset] [(.int rv), (.ref ax)]))
      by_cases zr : rv = (0 : Int32)
      ·
        refine Ends.pre (fun tt kt => XS.ifYes X.here hx rfl (pc0 := 200) (pc' := 213) rfl (hb hby at_200) rfl ((if0 _ _).trans (teq zr).1) (by decide) (by decide) kt) ?_
        show Ends p e below _ (T.setTop (mkF m 213 #[.val (.int w0), .val (.int w1), .val (.int w2), .val (.int w3), .val (.int bb), .val (.int sel), .val (.ref aw), .val (.int b0), .val (.int b1), .val (.int b2), .val (.int b3), .val (.int rv), .val (.int (own_n b0 b1 b2 b3)), .val (.ref ax), .val (.int ((0 : Int32) + b0)), .unset, .unset, .unset, .unset] [(.ref ax)]))
        refine Ends.pre (fun tt kt => XS.iload X.here hx rfl (hb hby at_213) rfl kt) ?_
        show Ends p e below _ (T.setTop (mkF m 215 #[.val (.int w0), .val (.int w1), .val (.int w2), .val (.int w3), .val (.int bb), .val (.int sel), .val (.ref aw), .val (.int b0), .val (.int b1), .val (.int b2), .val (.int b3), .val (.int rv), .val (.int (own_n b0 b1 b2 b3)), .val (.ref ax), .val (.int ((0 : Int32) + b0)), .unset, .unset, .unset, .unset] [(.int ((0 : Int32) + b0)), (.ref ax)]))
        refine Ends.pre (fun tt kt => XS.iconst X.here hx rfl (hb hby at_215) kt) ?_
        show Ends p e below _ (T.setTop (mkF m 216 #[.val (.int w0), .val (.int w1), .val (.int w2), .val (.int w3), .val (.int bb), .val (.int sel), .val (.ref aw), .val (.int b0), .val (.int b1), .val (.int b2), .val (.int b3), .val (.int rv), .val (.int (own_n b0 b1 b2 b3)), .val (.ref ax), .val (.int ((0 : Int32) + b0)), .unset, .unset, .unset, .unset] [(.int (1 : Int32)), (.int ((0 : Int32) + b0)), (.ref ax)]))
        obtain ⟨cl35, Ar35, qa35, sa35, na35, ha35, ga35⟩ := V_ax
        have hin35 : ¬ (((0 : Int32) + b0) < 0 ∨ cl35.slots.size ≤ (((0 : Int32) + b0)).toNatClampNeg) := inb_of sa35 ⟨(own_ia1 (rv := rv) hb0 hb1 hb2 hb3 z).1, (own_ia1 (rv := rv) hb0 hb1 hb2 hb3 z).2.1⟩
        obtain ⟨T35, h35, X35, e35, W35, st35⟩ := stI X hx hZ eT Ar35 (j := ((0 : Int32) + b0)) hin35 (g := (mkF m 216 #[.val (.int w0), .val (.int w1), .val (.int w2), .val (.int w3), .val (.int bb), .val (.int sel), .val (.ref aw), .val (.int b0), .val (.int b1), .val (.int b2), .val (.int b3), .val (.int rv), .val (.int (own_n b0 b1 b2 b3)), .val (.ref ax), .val (.int ((0 : Int32) + b0)), .unset, .unset, .unset, .unset] [(.int (1 : Int32)), (.int ((0 : Int32) + b0)), (.ref ax)])) rfl rfl (hb hby at_216)
        have V_aw := V_aw.other W35 (ne_aw_ax : aw ≠ ax)
        have Zh := Nat.le_trans Zh (Keep.of_wr W35).1
        have V_ax : Arv Z h35 ax kX .int (own_n b0 b1 b2 b3) (List.set (own_v1 b0 rv (own_n b0 b1 b2 b3)) (((0 : Int32) + b0)).toNatClampNeg (.int 1)) (.int 0) := Arv.set Ar35 qa35 sa35 na35 ha35 ga35 rfl W35 (((0 : Int32) + b0)).toNatClampNeg rfl (by rw [own_l1]; exact (own_ia1 (rv := rv) hb0 hb1 hb2 hb3 z).2.2)
        have N35 := Fr.snoc X35 N g_ax
        refine Ends.pre (fun tt kt => st35 _ kt) ?_
        show Ends p e below _ (T35.setTop (mkF m 217 #[.val (.int w0), .val (.int w1), .val (.int w2), .val (.int w3), .val (.int bb), .val (.int sel), .val (.ref aw), .val (.int b0), .val (.int b1), .val (.int b2), .val (.int b3), .val (.int rv), .val (.int (own_n b0 b1 b2 b3)), .val (.ref ax), .val (.int ((0 : Int32) + b0)), .unset, .unset, .unset, .unset] []))
        refine Ends.pre (fun tt kt => XS.iinc X35.here hx rfl (hb hby at_217) rfl (l' := #[.val (.int w0), .val (.int w1), .val (.int w2), .val (.int w3), .val (.int bb), .val (.int sel), .val (.ref aw), .val (.int b0), .val (.int b1), .val (.int b2), .val (.int b3), .val (.int rv), .val (.int (own_n b0 b1 b2 b3)), .val (.ref ax), .val (.int (((0 : Int32) + b0) + (1 : Int32))), .unset, .unset, .unset, .unset]) rfl kt) ?_
        show Ends p e below _ (T35.setTop (mkF m 220 #[.val (.int w0), .val (.int w1), .val (.int w2), .val (.int w3), .val (.int bb), .val (.int sel), .val (.ref aw), .val (.int b0), .val (.int b1), .val (.int b2), .val (.int b3), .val (.int rv), .val (.int (own_n b0 b1 b2 b3)), .val (.ref ax), .val (.int (((0 : Int32) + b0) + (1 : Int32))), .unset, .unset, .unset, .unset] []))
        have V_ax : Arv Z h35 ax kX .int (own_n b0 b1 b2 b3) (own_v2 b0 b1 rv (own_n b0 b1 b2 b3)) (.int 0) := by show Arv _ _ _ _ _ _ (own_e _ _ _ _ _ _) _; rw [own_e, if_neg z, if_pos zr]; exact V_ax
        exact J220 b0 b1 b2 b3 rv hb0 hb1 hb2 hb3 hrv _ _ _ ax kX (X35.more (by decide) (by decide)) e35 N35 Zh g_ax ne_aw_ax V_aw V_ax _ (by rw [hb1.resolve_left z])
      ·
        refine Ends.pre (fun tt kt => XS.ifNo X.here hx rfl (hb hby at_200) rfl ((if0 _ _).trans (feq zr).1) kt) ?_
        show Ends p e below _ (T.setTop (mkF m 203 #[.val (.int w0), .val (.int w1), .val (.int w2), .val (.int w3), .val (.int bb), .val (.int sel), .val (.ref aw), .val (.int b0), .val (.int b1), .val (.int b2), .val (.int b3), .val (.int rv), .val (.int (own_n b0 b1 b2 b3)), .val (.ref ax), .val (.int ((0 : Int32) + b0)), .unset, .unset, .unset, .unset] [(.ref ax)]))
        refine Ends.pre (fun tt kt => XS.iload X.here hx rfl (hb hby at_203) rfl kt) ?_
        show Ends p e below _ (T.setTop (mkF m 205 #[.val (.int w0), .val (.int w1), .val (.int w2), .val (.int w3), .val (.int bb), .val (.int sel), .val (.ref aw), .val (.int b0), .val (.int b1), .val (.int b2), .val (.int b3), .val (.int rv), .val (.int (own_n b0 b1 b2 b3)), .val (.ref ax), .val (.int ((0 : Int32) + b0)), .unset, .unset, .unset, .unset] [(.int (own_n b0 b1 b2 b3)), (.ref ax)]))
        refine Ends.pre (fun tt kt => XS.iconst X.here hx rfl (hb hby at_205) kt) ?_
        show Ends p e below _ (T.setTop (mkF m 206 #[.val (.int w0), .val (.int w1), .val (.int w2), .val (.int w3), .val (.int bb), .val (.int sel), .val (.ref aw), .val (.int b0), .val (.int b1), .val (.int b2), .val (.int b3), .val (.int rv), .val (.int (own_n b0 b1 b2 b3)), .val (.ref ax), .val (.int ((0 : Int32) + b0)), .unset, .unset, .unset, .unset] [(.int (1 : Int32)), (.int (own_n b0 b1 b2 b3)), (.ref ax)]))
        refine Ends.pre (fun tt kt => XS.isub X.here hx rfl (hb hby at_206) rfl kt) ?_
        show Ends p e below _ (T.setTop (mkF m 207 #[.val (.int w0), .val (.int w1), .val (.int w2), .val (.int w3), .val (.int bb), .val (.int sel), .val (.ref aw), .val (.int b0), .val (.int b1), .val (.int b2), .val (.int b3), .val (.int rv), .val (.int (own_n b0 b1 b2 b3)), .val (.ref ax), .val (.int ((0 : Int32) + b0)), .unset, .unset, .unset, .unset] [(.int ((own_n b0 b1 b2 b3) - (1 : Int32))), (.ref ax)]))
        refine Ends.pre (fun tt kt => XS.iload X.here hx rfl (hb hby at_207) rfl kt) ?_
        show Ends p e below _ (T.setTop (mkF m 209 #[.val (.int w0), .val (.int w1), .val (.int w2), .val (.int w3), .val (.int bb), .val (.int sel), .val (.ref aw), .val (.int b0), .val (.int b1), .val (.int b2), .val (.int b3), .val (.int rv), .val (.int (own_n b0 b1 b2 b3)), .val (.ref ax), .val (.int ((0 : Int32) + b0)), .unset, .unset, .unset, .unset] [(.int ((0 : Int32) + b0)), (.int ((own_n b0 b1 b2 b3) - (1 : Int32))), (.ref ax)]))
        refine Ends.pre (fun tt kt => XS.isub X.here hx rfl (hb hby at_209) rfl kt) ?_
        show Ends p e below _ (T.setTop (mkF m 210 #[.val (.int w0), .val (.int w1), .val (.int w2), .val (.int w3), .val (.int bb), .val (.int sel), .val (.ref aw), .val (.int b0), .val (.int b1), .val (.int b2), .val (.int b3), .val (.int rv), .val (.int (own_n b0 b1 b2 b3)), .val (.ref ax), .val (.int ((0 : Int32) + b0)), .unset, .unset, .unset, .unset] [(.int (((own_n b0 b1 b2 b3) - (1 : Int32)) - ((0 : Int32) + b0))), (.ref ax)]))
        refine Ends.pre (fun tt kt => XS.goto X.here hx rfl (pc0 := 210) (pc' := 215) rfl (hb hby at_210) (by decide) (by decide) kt) ?_
        show Ends p e below _ (T.setTop (mkF m 215 #[.val (.int w0), .val (.int w1), .val (.int w2), .val (.int w3), .val (.int bb), .val (.int sel), .val (.ref aw), .val (.int b0), .val (.int b1), .val (.int b2), .val (.int b3), .val (.int rv), .val (.int (own_n b0 b1 b2 b3)), .val (.ref ax), .val (.int ((0 : Int32) + b0)), .unset, .unset, .unset, .unset] [(.int (((own_n b0 b1 b2 b3) - (1 : Int32)) - ((0 : Int32) + b0))), (.ref ax)]))
        refine Ends.pre (fun tt kt => XS.iconst X.here hx rfl (hb hby at_215) kt) ?_
        show Ends p e below _ (T.setTop (mkF m 216 #[.val (.int w0), .val (.int w1), .val (.int w2), .val (.int w3), .val (.int bb), .val (.int sel), .val (.ref aw), .val (.int b0), .val (.int b1), .val (.int b2), .val (.int b3), .val (.int rv), .val (.int (own_n b0 b1 b2 b3)), .val (.ref ax), .val (.int ((0 : Int32) + b0)), .unset, .unset, .unset, .unset] [(.int (1 : Int32)), (.int (((own_n b0 b1 b2 b3) - (1 : Int32)) - ((0 : Int32) + b0))), (.ref ax)]))
        obtain ⟨cl36, Ar36, qa36, sa36, na36, ha36, ga36⟩ := V_ax
        have hin36 : ¬ ((((own_n b0 b1 b2 b3) - (1 : Int32)) - ((0 : Int32) + b0)) < 0 ∨ cl36.slots.size ≤ ((((own_n b0 b1 b2 b3) - (1 : Int32)) - ((0 : Int32) + b0))).toNatClampNeg) := inb_of sa36 ⟨(own_ib1 (rv := rv) hb0 hb1 hb2 hb3 z).1, (own_ib1 (rv := rv) hb0 hb1 hb2 hb3 z).2.1⟩
        obtain ⟨T36, h36, X36, e36, W36, st36⟩ := stI X hx hZ eT Ar36 (j := (((own_n b0 b1 b2 b3) - (1 : Int32)) - ((0 : Int32) + b0))) hin36 (g := (mkF m 216 #[.val (.int w0), .val (.int w1), .val (.int w2), .val (.int w3), .val (.int bb), .val (.int sel), .val (.ref aw), .val (.int b0), .val (.int b1), .val (.int b2), .val (.int b3), .val (.int rv), .val (.int (own_n b0 b1 b2 b3)), .val (.ref ax), .val (.int ((0 : Int32) + b0)), .unset, .unset, .unset, .unset] [(.int (1 : Int32)), (.int (((own_n b0 b1 b2 b3) - (1 : Int32)) - ((0 : Int32) + b0))), (.ref ax)])) rfl rfl (hb hby at_216)
        have V_aw := V_aw.other W36 (ne_aw_ax : aw ≠ ax)
        have Zh := Nat.le_trans Zh (Keep.of_wr W36).1
        have V_ax : Arv Z h36 ax kX .int (own_n b0 b1 b2 b3) (List.set (own_v1 b0 rv (own_n b0 b1 b2 b3)) ((((own_n b0 b1 b2 b3) - (1 : Int32)) - ((0 : Int32) + b0))).toNatClampNeg (.int 1)) (.int 0) := Arv.set Ar36 qa36 sa36 na36 ha36 ga36 rfl W36 ((((own_n b0 b1 b2 b3) - (1 : Int32)) - ((0 : Int32) + b0))).toNatClampNeg rfl (by rw [own_l1]; exact (own_ib1 (rv := rv) hb0 hb1 hb2 hb3 z).2.2)
        have N36 := Fr.snoc X36 N g_ax
        refine Ends.pre (fun tt kt => st36 _ kt) ?_
        show Ends p e below _ (T36.setTop (mkF m 217 #[.val (.int w0), .val (.int w1), .val (.int w2), .val (.int w3), .val (.int bb), .val (.int sel), .val (.ref aw), .val (.int b0), .val (.int b1), .val (.int b2), .val (.int b3), .val (.int rv), .val (.int (own_n b0 b1 b2 b3)), .val (.ref ax), .val (.int ((0 : Int32) + b0)), .unset, .unset, .unset, .unset] []))
        refine Ends.pre (fun tt kt => XS.iinc X36.here hx rfl (hb hby at_217) rfl (l' := #[.val (.int w0), .val (.int w1), .val (.int w2), .val (.int w3), .val (.int bb), .val (.int sel), .val (.ref aw), .val (.int b0), .val (.int b1), .val (.int b2), .val (.int b3), .val (.int rv), .val (.int (own_n b0 b1 b2 b3)), .val (.ref ax), .val (.int (((0 : Int32) + b0) + (1 : Int32))), .unset, .unset, .unset, .unset]) rfl kt) ?_
        show Ends p e below _ (T36.setTop (mkF m 220 #[.val (.int w0), .val (.int w1), .val (.int w2), .val (.int w3), .val (.int bb), .val (.int sel), .val (.ref aw), .val (.int b0), .val (.int b1), .val (.int b2), .val (.int b3), .val (.int rv), .val (.int (own_n b0 b1 b2 b3)), .val (.ref ax), .val (.int (((0 : Int32) + b0) + (1 : Int32))), .unset, .unset, .unset, .unset] []))
        have V_ax : Arv Z h36 ax kX .int (own_n b0 b1 b2 b3) (own_v2 b0 b1 rv (own_n b0 b1 b2 b3)) (.int 0) := by show Arv _ _ _ _ _ _ (own_e _ _ _ _ _ _) _; rw [own_e, if_neg z, if_neg zr]; exact V_ax
        exact J220 b0 b1 b2 b3 rv hb0 hb1 hb2 hb3 hrv _ _ _ ax kX (X36.more (by decide) (by decide)) e36 N36 Zh g_ax ne_aw_ax V_aw V_ax _ (by rw [hb1.resolve_left z])
  have J162 : ∀ (b0 b1 b2 b3 rv : Int32), (b0 = 0 ∨ b0 = 1) → (b1 = 0 ∨ b1 = 1) → (b2 = 0 ∨ b2 = 1) → (b3 = 0 ∨ b3 = 1) → (rv = 0 ∨ rv = 1) → ∀ (T : State) (h : Heap) (locs : List Loc) (ax : Addr) (kX : ClassId), Stand p l e room_1 s m #[(.int w0), (.int w1), (.int w2), (.int w3), (.int bb), (.int sel)] below meth c T locs 2 9 → T.heap = h → Fr n0 locs → n0 ≤ h.size → n0 ≤ ax → aw ≠ ax → Arv Z h aw k24 .double (5 : Int32) [(.double (FP.i2d w0)), (.double (FP.i2d w1)), (.double (FP.i2d w2)), (.double (FP.i2d w3)), (.double (FP.i2d bb))] (.double 0) → Arv Z h ax kX .int (own_n b0 b1 b2 b3) own_v0 (.int 0) → ∀ (kk : Int32), kk = (0 : Int32) → Ends p e below (fun t o => ∃ v L, o = .returned v ∧ Q0 Z w0 w1 w2 w3 bb sel h0 n0 v t.heap L ∧ FrameEnd s o t L room_1.cells room_1.slots) (T.setTop (mkF m 162 #[.val (.int w0), .val (.int w1), .val (.int w2), .val (.int w3), .val (.int bb), .val (.int sel), .val (.ref aw), .val (.int b0), .val (.int b1), .val (.int b2), .val (.int b3), .val (.int rv), .val (.int (own_n b0 b1 b2 b3)), .val (.ref ax), .val (.int kk), .unset, .unset, .unset, .unset] [])) := by
    intro b0 b1 b2 b3 rv hb0 hb1 hb2 hb3 hrv T h locs ax kX X eT N Zh g_ax ne_aw_ax V_aw V_ax kk hkk
    subst hkk
    show Ends p e below _ (T.setTop (mkF m 162 #[.val (.int w0), .val (.int w1), .val (.int w2), .val (.int w3), .val (.int bb), .val (.int sel), .val (.ref aw), .val (.int b0), .val (.int b1), .val (.int b2), .val (.int b3), .val (.int rv), .val (.int (own_n b0 b1 b2 b3)), .val (.ref ax), .val (.int (0 : Int32)), .unset, .unset, .unset, .unset] []))
    refine Ends.pre (fun tt kt => XS.iload X.here hx rfl (hb hby at_162) rfl kt) ?_
    show Ends p e below _ (T.setTop (mkF m 164 #[.val (.int w0), .val (.int w1), .val (.int w2), .val (.int w3), .val (.int bb), .val (.int sel), .val (.ref aw), .val (.int b0), .val (.int b1), .val (.int b2), .val (.int b3), .val (.int rv), .val (.int (own_n b0 b1 b2 b3)), .val (.ref ax), .val (.int (0 : Int32)), .unset, .unset, .unset, .unset] [(.int b0)]))
    by_cases z : b0 = (0 : Int32)
    ·
      refine Ends.pre (fun tt kt => XS.ifYes X.here hx rfl (pc0 := 164) (pc' := 191) rfl (hb hby at_164) rfl ((if0 _ _).trans (teq z).1) (by decide) (by decide) kt) ?_
      show Ends p e below _ (T.setTop (mkF m 191 #[.val (.int w0), .val (.int w1), .val (.int w2), .val (.int w3), .val (.int bb), .val (.int sel), .val (.ref aw), .val (.int b0), .val (.int b1), .val (.int b2), .val (.int b3), .val (.int rv), .val (.int (own_n b0 b1 b2 b3)), .val (.ref ax), .val (.int (0 : Int32)), .unset, .unset, .unset, .unset] []))
      have V_ax : Arv Z h ax kX .int (own_n b0 b1 b2 b3) (own_v1 b0 rv (own_n b0 b1 b2 b3)) (.int 0) := by show Arv _ _ _ _ _ _ (own_e _ _ _ _ _ _) _; rw [own_e, if_pos z]; exact V_ax
      exact J191 b0 b1 b2 b3 rv hb0 hb1 hb2 hb3 hrv _ _ _ ax kX (X.more (by decide) (by decide)) eT N Zh g_ax ne_aw_ax V_aw V_ax _ (by rw [z, Int32.add_zero])
    ·
      refine Ends.pre (fun tt kt => XS.ifNo X.here hx rfl (hb hby at_164) rfl ((if0 _ _).trans (feq z).1) kt) ?_
      show Ends p e below _ (T.setTop (mkF m 167 #[.val (.int w0), .val (.int w1), .val (.int w2), .val (.int w3), .val (.int bb), .val (.int sel), .val (.ref aw), .val (.int b0), .val (.int b1), .val (.int b2), .val (.int b3), .val (.int rv), .val (.int (own_n b0 b1 b2 b3)), .val (.ref ax), .val (.int (0 : Int32)), .unset, .unset, .unset, .unset] []))
      refine Ends.pre (fun tt kt => XS.aload X.here hx rfl (hb hby at_167) rfl rfl kt) ?_
      show Ends p e below _ (T.setTop (mkF m 169 #[.val (.int w0), .val (.int w1), .val (.int w2), .val (.int w3), .val (.int bb), .val (.int sel), .val (.ref aw), .val (.int b0), .val (.int b1), .val (.int b2), .val (.int b3), .val (.int rv), .val (.int (own_n b0 b1 b2 b3)), .val (.ref ax), .val (.int (0 : Int32)), .unset, .unset, .unset, .unset] [(.ref ax)]))
      refine Ends.pre (fun tt kt => XS.iload X.here hx rfl (hb hby at_169) rfl kt) ?_
      show Ends p e below _ (T.setTop (mkF m 171 #[.val (.int w0), .val (.int w1), .val (.int w2), .val (.int w3), .val (.int bb), .val (.int sel), .val (.ref aw), .val (.int b0), .val (.int b1), .val (.int b2), .val (.int b3), .val (.int rv), .val (.int (own_n b0 b1 b2 b3)), .val (.ref ax), .val (.int (0 : Int32)), .unset, .unset, .unset, .unset] [(.int rv), (.ref ax)]))
      by_cases zr : rv = (0 : Int32)
      ·
        refine Ends.pre (fun tt kt => XS.ifYes X.here hx rfl (pc0 := 171) (pc' := 184) rfl (hb hby at_171) rfl ((if0 _ _).trans (teq zr).1) (by decide) (by decide) kt) ?_
        show Ends p e below _ (T.setTop (mkF m 184 #[.val (.int w0), .val (.int w1), .val (.int w2), .val (.int w3), .val (.int bb), .val (.int sel), .val (.ref aw), .val (.int b0), .val (.int b1), .val (.int b2), .val (.int b3), .val (.int rv), .val (.int (own_n b0 b1 b2 b3)), .val (.ref ax), .val (.int (0 : Int32)), .unset, .unset, .unset, .unset] [(.ref ax)]))
        refine Ends.pre (fun tt kt => XS.iload X.here hx rfl (hb hby at_184) rfl kt) ?_
        show Ends p e below _ (T.setTop (mkF m 186 #[.val (.int w0), .val (.int w1), .val (.int w2), .val (.int w3), .val (.int bb), .val (.int sel), .val (.ref aw), .val (.int b0), .val (.int b1), .val (.int b2), .val (.int b3), .val (.int rv), .val (.int (own_n b0 b1 b2 b3)), .val (.ref ax), .val (.int (0 : Int32)), .unset, .unset, .unset, .unset] [(.int (0 : Int32)), (.ref ax)]))
        refine Ends.pre (fun tt kt => XS.iconst X.here hx rfl (hb hby at_186) kt) ?_
        show Ends p e below _ (T.setTop (mkF m 187 #[.val (.int w0), .val (.int w1), .val (.int w2), .val (.int w3), .val (.int bb), .val (.int sel), .val (.ref aw), .val (.int b0), .val (.int b1), .val (.int b2), .val (.int b3), .val (.int rv), .val (.int (own_n b0 b1 b2 b3)), .val (.ref ax), .val (.int (0 : Int32)), .unset, .unset, .unset, .unset] [(.int (0 : Int32)), (.int (0 : Int32)), (.ref ax)]))
        obtain ⟨cl37, Ar37, qa37, sa37, na37, ha37, ga37⟩ := V_ax
        have hin37 : ¬ ((0 : Int32) < 0 ∨ cl37.slots.size ≤ ((0 : Int32)).toNatClampNeg) := inb_of sa37 ⟨(own_ia0 (rv := rv) hb0 hb1 hb2 hb3 z).1, (own_ia0 (rv := rv) hb0 hb1 hb2 hb3 z).2.1⟩
        obtain ⟨T37, h37, X37, e37, W37, st37⟩ := stI X hx hZ eT Ar37 (j := (0 : Int32)) hin37 (g := (mkF m 187 #[.val (.int w0), .val (.int w1), .val (.int w2), .val (.int w3), .val (.int bb), .val (.int sel), .val (.ref aw), .val (.int b0), .val (.int b1), .val (.int b2), .val (.int b3), .val (.int rv), .val (.int (own_n b0 b1 b2 b3)), .val (.ref ax), .val (.int (0 : Int32)), .unset, .unset, .unset, .unset] [(.int (0 : Int32)), (.int (0 : Int32)), (.ref ax)])) rfl rfl (hb hby at_187)
        have V_aw := V_aw.other W37 (ne_aw_ax : aw ≠ ax)
        have Zh := Nat.le_trans Zh (Keep.of_wr W37).1
        have V_ax : Arv Z h37 ax kX .int (own_n b0 b1 b2 b3) (List.set own_v0 ((0 : Int32)).toNatClampNeg (.int 0)) (.int 0) := Arv.set Ar37 qa37 sa37 na37 ha37 ga37 rfl W37 ((0 : Int32)).toNatClampNeg rfl (by rw [show own_v0.length = 4 from rfl]; exact (own_ia0 (rv := rv) hb0 hb1 hb2 hb3 z).2.2)
        have N37 := Fr.snoc X37 N g_ax
        refine Ends.pre (fun tt kt => st37 _ kt) ?_
        show Ends p e below _ (T37.setTop (mkF m 188 #[.val (.int w0), .val (.int w1), .val (.int w2), .val (.int w3), .val (.int bb), .val (.int sel), .val (.ref aw), .val (.int b0), .val (.int b1), .val (.int b2), .val (.int b3), .val (.int rv), .val (.int (own_n b0 b1 b2 b3)), .val (.ref ax), .val (.int (0 : Int32)), .unset, .unset, .unset, .unset] []))
        refine Ends.pre (fun tt kt => XS.iinc X37.here hx rfl (hb hby at_188) rfl (l' := #[.val (.int w0), .val (.int w1), .val (.int w2), .val (.int w3), .val (.int bb), .val (.int sel), .val (.ref aw), .val (.int b0), .val (.int b1), .val (.int b2), .val (.int b3), .val (.int rv), .val (.int (own_n b0 b1 b2 b3)), .val (.ref ax), .val (.int ((0 : Int32) + (1 : Int32))), .unset, .unset, .unset, .unset]) rfl kt) ?_
        show Ends p e below _ (T37.setTop (mkF m 191 #[.val (.int w0), .val (.int w1), .val (.int w2), .val (.int w3), .val (.int bb), .val (.int sel), .val (.ref aw), .val (.int b0), .val (.int b1), .val (.int b2), .val (.int b3), .val (.int rv), .val (.int (own_n b0 b1 b2 b3)), .val (.ref ax), .val (.int ((0 : Int32) + (1 : Int32))), .unset, .unset, .unset, .unset] []))
        have V_ax : Arv Z h37 ax kX .int (own_n b0 b1 b2 b3) (own_v1 b0 rv (own_n b0 b1 b2 b3)) (.int 0) := by show Arv _ _ _ _ _ _ (own_e _ _ _ _ _ _) _; rw [own_e, if_neg z, if_pos zr]; exact V_ax
        exact J191 b0 b1 b2 b3 rv hb0 hb1 hb2 hb3 hrv _ _ _ ax kX (X37.more (by decide) (by decide)) e37 N37 Zh g_ax ne_aw_ax V_aw V_ax _ (by rw [hb0.resolve_left z])
      ·
        refine Ends.pre (fun tt kt => XS.ifNo X.here hx rfl (hb hby at_171) rfl ((if0 _ _).trans (feq zr).1) kt) ?_
        show Ends p e below _ (T.setTop (mkF m 174 #[.val (.int w0), .val (.int w1), .val (.int w2), .val (.int w3), .val (.int bb), .val (.int sel), .val (.ref aw), .val (.int b0), .val (.int b1), .val (.int b2), .val (.int b3), .val (.int rv), .val (.int (own_n b0 b1 b2 b3)), .val (.ref ax), .val (.int (0 : Int32)), .unset, .unset, .unset, .unset] [(.ref ax)]))
        refine Ends.pre (fun tt kt => XS.iload X.here hx rfl (hb hby at_174) rfl kt) ?_
        show Ends p e below _ (T.setTop (mkF m 176 #[.val (.int w0), .val (.int w1), .val (.int w2), .val (.int w3), .val (.int bb), .val (.int sel), .val (.ref aw), .val (.int b0), .val (.int b1), .val (.int b2), .val (.int b3), .val (.int rv), .val (.int (own_n b0 b1 b2 b3)), .val (.ref ax), .val (.int (0 : Int32)), .unset, .unset, .unset, .unset] [(.int (own_n b0 b1 b2 b3)), (.ref ax)]))
        refine Ends.pre (fun tt kt => XS.iconst X.here hx rfl (hb hby at_176) kt) ?_
        show Ends p e below _ (T.setTop (mkF m 177 #[.val (.int w0), .val (.int w1), .val (.int w2), .val (.int w3), .val (.int bb), .val (.int sel), .val (.ref aw), .val (.int b0), .val (.int b1), .val (.int b2), .val (.int b3), .val (.int rv), .val (.int (own_n b0 b1 b2 b3)), .val (.ref ax), .val (.int (0 : Int32)), .unset, .unset, .unset, .unset] [(.int (1 : Int32)), (.int (own_n b0 b1 b2 b3)), (.ref ax)]))
        refine Ends.pre (fun tt kt => XS.isub X.here hx rfl (hb hby at_177) rfl kt) ?_
        show Ends p e below _ (T.setTop (mkF m 178 #[.val (.int w0), .val (.int w1), .val (.int w2), .val (.int w3), .val (.int bb), .val (.int sel), .val (.ref aw), .val (.int b0), .val (.int b1), .val (.int b2), .val (.int b3), .val (.int rv), .val (.int (own_n b0 b1 b2 b3)), .val (.ref ax), .val (.int (0 : Int32)), .unset, .unset, .unset, .unset] [(.int ((own_n b0 b1 b2 b3) - (1 : Int32))), (.ref ax)]))
        refine Ends.pre (fun tt kt => XS.iload X.here hx rfl (hb hby at_178) rfl kt) ?_
        show Ends p e below _ (T.setTop (mkF m 180 #[.val (.int w0), .val (.int w1), .val (.int w2), .val (.int w3), .val (.int bb), .val (.int sel), .val (.ref aw), .val (.int b0), .val (.int b1), .val (.int b2), .val (.int b3), .val (.int rv), .val (.int (own_n b0 b1 b2 b3)), .val (.ref ax), .val (.int (0 : Int32)), .unset, .unset, .unset, .unset] [(.int (0 : Int32)), (.int ((own_n b0 b1 b2 b3) - (1 : Int32))), (.ref ax)]))
        refine Ends.pre (fun tt kt => XS.isub X.here hx rfl (hb hby at_180) rfl kt) ?_
        show Ends p e below _ (T.setTop (mkF m 181 #[.val (.int w0), .val (.int w1), .val (.int w2), .val (.int w3), .val (.int bb), .val (.int sel), .val (.ref aw), .val (.int b0), .val (.int b1), .val (.int b2), .val (.int b3), .val (.int rv), .val (.int (own_n b0 b1 b2 b3)), .val (.ref ax), .val (.int (0 : Int32)), .unset, .unset, .unset, .unset] [(.int (((own_n b0 b1 b2 b3) - (1 : Int32)) - (0 : Int32))), (.ref ax)]))
        refine Ends.pre (fun tt kt => XS.goto X.here hx rfl (pc0 := 181) (pc' := 186) rfl (hb hby at_181) (by decide) (by decide) kt) ?_
        show Ends p e below _ (T.setTop (mkF m 186 #[.val (.int w0), .val (.int w1), .val (.int w2), .val (.int w3), .val (.int bb), .val (.int sel), .val (.ref aw), .val (.int b0), .val (.int b1), .val (.int b2), .val (.int b3), .val (.int rv), .val (.int (own_n b0 b1 b2 b3)), .val (.ref ax), .val (.int (0 : Int32)), .unset, .unset, .unset, .unset] [(.int (((own_n b0 b1 b2 b3) - (1 : Int32)) - (0 : Int32))), (.ref ax)]))
        refine Ends.pre (fun tt kt => XS.iconst X.here hx rfl (hb hby at_186) kt) ?_
        show Ends p e below _ (T.setTop (mkF m 187 #[.val (.int w0), .val (.int w1), .val (.int w2), .val (.int w3), .val (.int bb), .val (.int sel), .val (.ref aw), .val (.int b0), .val (.int b1), .val (.int b2), .val (.int b3), .val (.int rv), .val (.int (own_n b0 b1 b2 b3)), .val (.ref ax), .val (.int (0 : Int32)), .unset, .unset, .unset, .unset] [(.int (0 : Int32)), (.int (((own_n b0 b1 b2 b3) - (1 : Int32)) - (0 : Int32))), (.ref ax)]))
        obtain ⟨cl38, Ar38, qa38, sa38, na38, ha38, ga38⟩ := V_ax
        have hin38 : ¬ ((((own_n b0 b1 b2 b3) - (1 : Int32)) - (0 : Int32)) < 0 ∨ cl38.slots.size ≤ ((((own_n b0 b1 b2 b3) - (1 : Int32)) - (0 : Int32))).toNatClampNeg) := inb_of sa38 ⟨(own_ib0 (rv := rv) hb0 hb1 hb2 hb3 z).1, (own_ib0 (rv := rv) hb0 hb1 hb2 hb3 z).2.1⟩
        obtain ⟨T38, h38, X38, e38, W38, st38⟩ := stI X hx hZ eT Ar38 (j := (((own_n b0 b1 b2 b3) - (1 : Int32)) - (0 : Int32))) hin38 (g := (mkF m 187 #[.val (.int w0), .val (.int w1), .val (.int w2), .val (.int w3), .val (.int bb), .val (.int sel), .val (.ref aw), .val (.int b0), .val (.int b1), .val (.int b2), .val (.int b3), .val (.int rv), .val (.int (own_n b0 b1 b2 b3)), .val (.ref ax), .val (.int (0 : Int32)), .unset, .unset, .unset, .unset] [(.int (0 : Int32)), (.int (((own_n b0 b1 b2 b3) - (1 : Int32)) - (0 : Int32))), (.ref ax)])) rfl rfl (hb hby at_187)
        have V_aw := V_aw.other W38 (ne_aw_ax : aw ≠ ax)
        have Zh := Nat.le_trans Zh (Keep.of_wr W38).1
        have V_ax : Arv Z h38 ax kX .int (own_n b0 b1 b2 b3) (List.set own_v0 ((((own_n b0 b1 b2 b3) - (1 : Int32)) - (0 : Int32))).toNatClampNeg (.int 0)) (.int 0) := Arv.set Ar38 qa38 sa38 na38 ha38 ga38 rfl W38 ((((own_n b0 b1 b2 b3) - (1 : Int32)) - (0 : Int32))).toNatClampNeg rfl (by rw [show own_v0.length = 4 from rfl]; exact (own_ib0 (rv := rv) hb0 hb1 hb2 hb3 z).2.2)
        have N38 := Fr.snoc X38 N g_ax
        refine Ends.pre (fun tt kt => st38 _ kt) ?_
        show Ends p e below _ (T38.setTop (mkF m 188 #[.val (.int w0), .val (.int w1), .val (.int w2), .val (.int w3), .val (.int bb), .val (.int sel), .val (.ref aw), .val (.int b0), .val (.int b1), .val (.int b2), .val (.int b3), .val (.int rv), .val (.int (own_n b0 b1 b2 b3)), .val (.ref ax), .val (.int (0 : Int32)), .unset, .unset, .unset, .unset] []))
        refine Ends.pre (fun tt kt => XS.iinc X38.here hx rfl (hb hby at_188) rfl (l' := #[.val (.int w0), .val (.int w1), .val (.int w2), .val (.int w3), .val (.int bb), .val (.int sel), .val (.ref aw), .val (.int b0), .val (.int b1), .val (.int b2), .val (.int b3), .val (.int rv), .val (.int (own_n b0 b1 b2 b3)), .val (.ref ax), .val (.int ((0 : Int32) + (1 : Int32))), .unset, .unset, .unset, .unset]) rfl kt) ?_
        show Ends p e below _ (T38.setTop (mkF m 191 #[.val (.int w0), .val (.int w1), .val (.int w2), .val (.int w3), .val (.int bb), .val (.int sel), .val (.ref aw), .val (.int b0), .val (.int b1), .val (.int b2), .val (.int b3), .val (.int rv), .val (.int (own_n b0 b1 b2 b3)), .val (.ref ax), .val (.int ((0 : Int32) + (1 : Int32))), .unset, .unset, .unset, .unset] []))
        have V_ax : Arv Z h38 ax kX .int (own_n b0 b1 b2 b3) (own_v1 b0 rv (own_n b0 b1 b2 b3)) (.int 0) := by show Arv _ _ _ _ _ _ (own_e _ _ _ _ _ _) _; rw [own_e, if_neg z, if_neg zr]; exact V_ax
        exact J191 b0 b1 b2 b3 rv hb0 hb1 hb2 hb3 hrv _ _ _ ax kX (X38.more (by decide) (by decide)) e38 N38 Zh g_ax ne_aw_ax V_aw V_ax _ (by rw [hb0.resolve_left z])
  have J150 : ∀ (b0 b1 b2 b3 rv : Int32), (b0 = 0 ∨ b0 = 1) → (b1 = 0 ∨ b1 = 1) → (b2 = 0 ∨ b2 = 1) → (b3 = 0 ∨ b3 = 1) → (rv = 0 ∨ rv = 1) → Ends p e below (fun t o => ∃ v L, o = .returned v ∧ Q0 Z w0 w1 w2 w3 bb sel h0 n0 v t.heap L ∧ FrameEnd s o t L room_1.cells room_1.slots) (T29.setTop (mkF m 150 #[.val (.int w0), .val (.int w1), .val (.int w2), .val (.int w3), .val (.int bb), .val (.int sel), .val (.ref aw), .val (.int b0), .val (.int b1), .val (.int b2), .val (.int b3), .val (.int rv), .unset, .unset, .unset, .unset, .unset, .unset, .unset] [(.int b3), (.int ((b0 + b1) + b2))])) := by
    intro b0 b1 b2 b3 rv hb0 hb1 hb2 hb3 hrv
    show Ends p e below _ (T29.setTop (mkF m 150 #[.val (.int w0), .val (.int w1), .val (.int w2), .val (.int w3), .val (.int bb), .val (.int sel), .val (.ref aw), .val (.int b0), .val (.int b1), .val (.int b2), .val (.int b3), .val (.int rv), .unset, .unset, .unset, .unset, .unset, .unset, .unset] [(.int b3), (.int ((b0 + b1) + b2))]))
    refine Ends.pre (fun tt kt => XS.iadd X29.here hx rfl (hb hby at_150) rfl kt) ?_
    show Ends p e below _ (T29.setTop (mkF m 151 #[.val (.int w0), .val (.int w1), .val (.int w2), .val (.int w3), .val (.int bb), .val (.int sel), .val (.ref aw), .val (.int b0), .val (.int b1), .val (.int b2), .val (.int b3), .val (.int rv), .unset, .unset, .unset, .unset, .unset, .unset, .unset] [(.int (((b0 + b1) + b2) + b3))]))
    show Ends p e below _ (T29.setTop (mkF m 151 #[.val (.int w0), .val (.int w1), .val (.int w2), .val (.int w3), .val (.int bb), .val (.int sel), .val (.ref aw), .val (.int b0), .val (.int b1), .val (.int b2), .val (.int b3), .val (.int rv), .unset, .unset, .unset, .unset, .unset, .unset, .unset] [(.int (own_n b0 b1 b2 b3))]))
    refine Ends.pre (fun tt kt => XS.istore X29.here hx rfl (hb hby at_151) rfl (l' := #[.val (.int w0), .val (.int w1), .val (.int w2), .val (.int w3), .val (.int bb), .val (.int sel), .val (.ref aw), .val (.int b0), .val (.int b1), .val (.int b2), .val (.int b3), .val (.int rv), .val (.int (own_n b0 b1 b2 b3)), .unset, .unset, .unset, .unset, .unset, .unset]) rfl kt) ?_
    show Ends p e below _ (T29.setTop (mkF m 153 #[.val (.int w0), .val (.int w1), .val (.int w2), .val (.int w3), .val (.int bb), .val (.int sel), .val (.ref aw), .val (.int b0), .val (.int b1), .val (.int b2), .val (.int b3), .val (.int rv), .val (.int (own_n b0 b1 b2 b3)), .unset, .unset, .unset, .unset, .unset, .unset] []))
    refine Ends.pre (fun tt kt => XS.iload X29.here hx rfl (hb hby at_153) rfl kt) ?_
    show Ends p e below _ (T29.setTop (mkF m 155 #[.val (.int w0), .val (.int w1), .val (.int w2), .val (.int w3), .val (.int bb), .val (.int sel), .val (.ref aw), .val (.int b0), .val (.int b1), .val (.int b2), .val (.int b3), .val (.int rv), .val (.int (own_n b0 b1 b2 b3)), .unset, .unset, .unset, .unset, .unset, .unset] [(.int (own_n b0 b1 b2 b3))]))
    obtain ⟨T39, h39, k39, X39, e39, E39, A39, st39⟩ := newP X29 hx hZ (hw _ (List.mem_of_getElem? (i := 1) rfl)) e29 (g := (mkF m 155 #[.val (.int w0), .val (.int w1), .val (.int w2), .val (.int w3), .val (.int bb), .val (.int sel), .val (.ref aw), .val (.int b0), .val (.int b1), .val (.int b2), .val (.int b3), .val (.int rv), .val (.int (own_n b0 b1 b2 b3)), .unset, .unset, .unset, .unset, .unset, .unset] [(.int (own_n b0 b1 b2 b3))])) rfl (hb hby at_155) rfl (own_nn0 (own_nr hb0 hb1 hb2 hb3)).1 (cap := 4) (own_nn0 (own_nr hb0 hb1 hb2 hb3)).2 (by decide) (by decide) (by decide)
    obtain ⟨ax, g39⟩ : ∃ z, z = h29.size := ⟨_, rfl⟩
    rw [← g39] at A39 st39
    have ne_aw_ax : aw ≠ ax := Nat.ne_of_lt (Nat.lt_of_lt_of_le V_aw.lt (Nat.le_of_eq g39.symm))
    have g_ax : n0 ≤ ax := Nat.le_trans Z0 (Nat.le_of_eq g39.symm)
    have V_aw := V_aw.ext E39
    have Z0 := Nat.le_trans Z0 E39.1
    have V_ax : Arv Z h39 ax k39 .int (own_n b0 b1 b2 b3) [(.int 0), (.int 0), (.int 0), (.int 0)] (.int 0) := (Arv.new A39 (own_nn0 (own_nr hb0 hb1 hb2 hb3)).1).pad (pad_rep [] _ 4)
    refine Ends.pre (fun tt kt => st39 _ kt) ?_
    show Ends p e below _ (T39.setTop (mkF m 157 #[.val (.int w0), .val (.int w1), .val (.int w2), .val (.int w3), .val (.int bb), .val (.int sel), .val (.ref aw), .val (.int b0), .val (.int b1), .val (.int b2), .val (.int b3), .val (.int rv), .val (.int (own_n b0 b1 b2 b3)), .unset, .unset, .unset, .unset, .unset, .unset] [(.ref ax)]))
    refine Ends.pre (fun tt kt => XS.astore X39.here hx rfl (hb hby at_157) rfl rfl (l' := #[.val (.int w0), .val (.int w1), .val (.int w2), .val (.int w3), .val (.int bb), .val (.int sel), .val (.ref aw), .val (.int b0), .val (.int b1), .val (.int b2), .val (.int b3), .val (.int rv), .val (.int (own_n b0 b1 b2 b3)), .val (.ref ax), .unset, .unset, .unset, .unset, .unset]) rfl kt) ?_
    show Ends p e below _ (T39.setTop (mkF m 159 #[.val (.int w0), .val (.int w1), .val (.int w2), .val (.int w3), .val (.int bb), .val (.int sel), .val (.ref aw), .val (.int b0), .val (.int b1), .val (.int b2), .val (.int b3), .val (.int rv), .val (.int (own_n b0 b1 b2 b3)), .val (.ref ax), .unset, .unset, .unset, .unset, .unset] []))
    refine Ends.pre (fun tt kt => XS.iconst X39.here hx rfl (hb hby at_159) kt) ?_
    show Ends p e below _ (T39.setTop (mkF m 160 #[.val (.int w0), .val (.int w1), .val (.int w2), .val (.int w3), .val (.int bb), .val (.int sel), .val (.ref aw), .val (.int b0), .val (.int b1), .val (.int b2), .val (.int b3), .val (.int rv), .val (.int (own_n b0 b1 b2 b3)), .val (.ref ax), .unset, .unset, .unset, .unset, .unset] [(.int (0 : Int32))]))
    refine Ends.pre (fun tt kt => XS.istore X39.here hx rfl (hb hby at_160) rfl (l' := #[.val (.int w0), .val (.int w1), .val (.int w2), .val (.int w3), .val (.int bb), .val (.int sel), .val (.ref aw), .val (.int b0), .val (.int b1), .val (.int b2), .val (.int b3), .val (.int rv), .val (.int (own_n b0 b1 b2 b3)), .val (.ref ax), .val (.int (0 : Int32)), .unset, .unset, .unset, .unset]) rfl kt) ?_
    show Ends p e below _ (T39.setTop (mkF m 162 #[.val (.int w0), .val (.int w1), .val (.int w2), .val (.int w3), .val (.int bb), .val (.int sel), .val (.ref aw), .val (.int b0), .val (.int b1), .val (.int b2), .val (.int b3), .val (.int rv), .val (.int (own_n b0 b1 b2 b3)), .val (.ref ax), .val (.int (0 : Int32)), .unset, .unset, .unset, .unset] []))
    exact J162 b0 b1 b2 b3 rv hb0 hb1 hb2 hb3 hrv _ _ _ ax k39 (X39.more (by decide) (by decide)) e39 N29 Z0 g_ax ne_aw_ax V_aw V_ax _ rfl
  have J139 : ∀ (b0 b1 b2 b3 rv : Int32), (b0 = 0 ∨ b0 = 1) → (b1 = 0 ∨ b1 = 1) → (b2 = 0 ∨ b2 = 1) → (b3 = 0 ∨ b3 = 1) → (rv = 0 ∨ rv = 1) → Ends p e below (fun t o => ∃ v L, o = .returned v ∧ Q0 Z w0 w1 w2 w3 bb sel h0 n0 v t.heap L ∧ FrameEnd s o t L room_1.cells room_1.slots) (T29.setTop (mkF m 139 #[.val (.int w0), .val (.int w1), .val (.int w2), .val (.int w3), .val (.int bb), .val (.int sel), .val (.ref aw), .val (.int b0), .val (.int b1), .val (.int b2), .val (.int b3), .val (.int rv), .unset, .unset, .unset, .unset, .unset, .unset, .unset] [(.int b2), (.int (b0 + b1))])) := by
    intro b0 b1 b2 b3 rv hb0 hb1 hb2 hb3 hrv
    show Ends p e below _ (T29.setTop (mkF m 139 #[.val (.int w0), .val (.int w1), .val (.int w2), .val (.int w3), .val (.int bb), .val (.int sel), .val (.ref aw), .val (.int b0), .val (.int b1), .val (.int b2), .val (.int b3), .val (.int rv), .unset, .unset, .unset, .unset, .unset, .unset, .unset] [(.int b2), (.int (b0 + b1))]))
    refine Ends.pre (fun tt kt => XS.iadd X29.here hx rfl (hb hby at_139) rfl kt) ?_
    show Ends p e below _ (T29.setTop (mkF m 140 #[.val (.int w0), .val (.int w1), .val (.int w2), .val (.int w3), .val (.int bb), .val (.int sel), .val (.ref aw), .val (.int b0), .val (.int b1), .val (.int b2), .val (.int b3), .val (.int rv), .unset, .unset, .unset, .unset, .unset, .unset, .unset] [(.int ((b0 + b1) + b2))]))
    refine Ends.pre (fun tt kt => XS.iload X29.here hx rfl (hb hby at_140) rfl kt) ?_
    show Ends p e below _ (T29.setTop (mkF m 142 #[.val (.int w0), .val (.int w1), .val (.int w2), .val (.int w3), .val (.int bb), .val (.int sel), .val (.ref aw), .val (.int b0), .val (.int b1), .val (.int b2), .val (.int b3), .val (.int rv), .unset, .unset, .unset, .unset, .unset, .unset, .unset] [(.int b3), (.int ((b0 + b1) + b2))]))
    by_cases z : b3 = (0 : Int32)
    ·
      refine Ends.pre (fun tt kt => XS.ifYes X29.here hx rfl (pc0 := 142) (pc' := 149) rfl (hb hby at_142) rfl ((if0 _ _).trans (teq z).1) (by decide) (by decide) kt) ?_
      show Ends p e below _ (T29.setTop (mkF m 149 #[.val (.int w0), .val (.int w1), .val (.int w2), .val (.int w3), .val (.int bb), .val (.int sel), .val (.ref aw), .val (.int b0), .val (.int b1), .val (.int b2), .val (.int b3), .val (.int rv), .unset, .unset, .unset, .unset, .unset, .unset, .unset] [(.int ((b0 + b1) + b2))]))
      refine Ends.pre (fun tt kt => XS.iconst X29.here hx rfl (hb hby at_149) kt) ?_
      show Ends p e below _ (T29.setTop (mkF m 150 #[.val (.int w0), .val (.int w1), .val (.int w2), .val (.int w3), .val (.int bb), .val (.int sel), .val (.ref aw), .val (.int b0), .val (.int b1), .val (.int b2), .val (.int b3), .val (.int rv), .unset, .unset, .unset, .unset, .unset, .unset, .unset] [(.int (0 : Int32)), (.int ((b0 + b1) + b2))]))
      have q := J150 b0 b1 b2 b3 rv hb0 hb1 hb2 hb3 hrv
      rw [z] at q ⊢
      exact q
    ·
      refine Ends.pre (fun tt kt => XS.ifNo X29.here hx rfl (hb hby at_142) rfl ((if0 _ _).trans (feq z).1) kt) ?_
      show Ends p e below _ (T29.setTop (mkF m 145 #[.val (.int w0), .val (.int w1), .val (.int w2), .val (.int w3), .val (.int bb), .val (.int sel), .val (.ref aw), .val (.int b0), .val (.int b1), .val (.int b2), .val (.int b3), .val (.int rv), .unset, .unset, .unset, .unset, .unset, .unset, .unset] [(.int ((b0 + b1) + b2))]))
      refine Ends.pre (fun tt kt => XS.iconst X29.here hx rfl (hb hby at_145) kt) ?_
      show Ends p e below _ (T29.setTop (mkF m 146 #[.val (.int w0), .val (.int w1), .val (.int w2), .val (.int w3), .val (.int bb), .val (.int sel), .val (.ref aw), .val (.int b0), .val (.int b1), .val (.int b2), .val (.int b3), .val (.int rv), .unset, .unset, .unset, .unset, .unset, .unset, .unset] [(.int (1 : Int32)), (.int ((b0 + b1) + b2))]))
      refine Ends.pre (fun tt kt => XS.goto X29.here hx rfl (pc0 := 146) (pc' := 150) rfl (hb hby at_146) (by decide) (by decide) kt) ?_
      show Ends p e below _ (T29.setTop (mkF m 150 #[.val (.int w0), .val (.int w1), .val (.int w2), .val (.int w3), .val (.int bb), .val (.int sel), .val (.ref aw), .val (.int b0), .val (.int b1), .val (.int b2), .val (.int b3), .val (.int rv), .unset, .unset, .unset, .unset, .unset, .unset, .unset] [(.int (1 : Int32)), (.int ((b0 + b1) + b2))]))
      have q := J150 b0 b1 b2 b3 rv hb0 hb1 hb2 hb3 hrv
      rw [hb3.resolve_left z] at q ⊢
      exact q
  have J128 : ∀ (b0 b1 b2 b3 rv : Int32), (b0 = 0 ∨ b0 = 1) → (b1 = 0 ∨ b1 = 1) → (b2 = 0 ∨ b2 = 1) → (b3 = 0 ∨ b3 = 1) → (rv = 0 ∨ rv = 1) → Ends p e below (fun t o => ∃ v L, o = .returned v ∧ Q0 Z w0 w1 w2 w3 bb sel h0 n0 v t.heap L ∧ FrameEnd s o t L room_1.cells room_1.slots) (T29.setTop (mkF m 128 #[.val (.int w0), .val (.int w1), .val (.int w2), .val (.int w3), .val (.int bb), .val (.int sel), .val (.ref aw), .val (.int b0), .val (.int b1), .val (.int b2), .val (.int b3), .val (.int rv), .unset, .unset, .unset, .unset, .unset, .unset, .unset] [(.int b1), (.int b0)])) := by
    intro b0 b1 b2 b3 rv hb0 hb1 hb2 hb3 hrv
    show Ends p e below _ (T29.setTop (mkF m 128 #[.val (.int w0), .val (.int w1), .val (.int w2), .val (.int w3), .val (.int bb), .val (.int sel), .val (.ref aw), .val (.int b0), .val (.int b1), .val (.int b2), .val (.int b3), .val (.int rv), .unset, .unset, .unset, .unset, .unset, .unset, .unset] [(.int b1), (.int b0)]))
    refine Ends.pre (fun tt kt => XS.iadd X29.here hx rfl (hb hby at_128) rfl kt) ?_
    show Ends p e below _ (T29.setTop (mkF m 129 #[.val (.int w0), .val (.int w1), .val (.int w2), .val (.int w3), .val (.int bb), .val (.int sel), .val (.ref aw), .val (.int b0), .val (.int b1), .val (.int b2), .val (.int b3), .val (.int rv), .unset, .unset, .unset, .unset, .unset, .unset, .unset] [(.int (b0 + b1))]))
    refine Ends.pre (fun tt kt => XS.iload X29.here hx rfl (hb hby at_129) rfl kt) ?_
    show Ends p e below _ (T29.setTop (mkF m 131 #[.val (.int w0), .val (.int w1), .val (.int w2), .val (.int w3), .val (.int bb), .val (.int sel), .val (.ref aw), .val (.int b0), .val (.int b1), .val (.int b2), .val (.int b3), .val (.int rv), .unset, .unset, .unset, .unset, .unset, .unset, .unset] [(.int b2), (.int (b0 + b1))]))
    by_cases z : b2 = (0 : Int32)
    ·
      refine Ends.pre (fun tt kt => XS.ifYes X29.here hx rfl (pc0 := 131) (pc' := 138) rfl (hb hby at_131) rfl ((if0 _ _).trans (teq z).1) (by decide) (by decide) kt) ?_
      show Ends p e below _ (T29.setTop (mkF m 138 #[.val (.int w0), .val (.int w1), .val (.int w2), .val (.int w3), .val (.int bb), .val (.int sel), .val (.ref aw), .val (.int b0), .val (.int b1), .val (.int b2), .val (.int b3), .val (.int rv), .unset, .unset, .unset, .unset, .unset, .unset, .unset] [(.int (b0 + b1))]))
      refine Ends.pre (fun tt kt => XS.iconst X29.here hx rfl (hb hby at_138) kt) ?_
      show Ends p e below _ (T29.setTop (mkF m 139 #[.val (.int w0), .val (.int w1), .val (.int w2), .val (.int w3), .val (.int bb), .val (.int sel), .val (.ref aw), .val (.int b0), .val (.int b1), .val (.int b2), .val (.int b3), .val (.int rv), .unset, .unset, .unset, .unset, .unset, .unset, .unset] [(.int (0 : Int32)), (.int (b0 + b1))]))
      have q := J139 b0 b1 b2 b3 rv hb0 hb1 hb2 hb3 hrv
      rw [z] at q ⊢
      exact q
    ·
      refine Ends.pre (fun tt kt => XS.ifNo X29.here hx rfl (hb hby at_131) rfl ((if0 _ _).trans (feq z).1) kt) ?_
      show Ends p e below _ (T29.setTop (mkF m 134 #[.val (.int w0), .val (.int w1), .val (.int w2), .val (.int w3), .val (.int bb), .val (.int sel), .val (.ref aw), .val (.int b0), .val (.int b1), .val (.int b2), .val (.int b3), .val (.int rv), .unset, .unset, .unset, .unset, .unset, .unset, .unset] [(.int (b0 + b1))]))
      refine Ends.pre (fun tt kt => XS.iconst X29.here hx rfl (hb hby at_134) kt) ?_
      show Ends p e below _ (T29.setTop (mkF m 135 #[.val (.int w0), .val (.int w1), .val (.int w2), .val (.int w3), .val (.int bb), .val (.int sel), .val (.ref aw), .val (.int b0), .val (.int b1), .val (.int b2), .val (.int b3), .val (.int rv), .unset, .unset, .unset, .unset, .unset, .unset, .unset] [(.int (1 : Int32)), (.int (b0 + b1))]))
      refine Ends.pre (fun tt kt => XS.goto X29.here hx rfl (pc0 := 135) (pc' := 139) rfl (hb hby at_135) (by decide) (by decide) kt) ?_
      show Ends p e below _ (T29.setTop (mkF m 139 #[.val (.int w0), .val (.int w1), .val (.int w2), .val (.int w3), .val (.int bb), .val (.int sel), .val (.ref aw), .val (.int b0), .val (.int b1), .val (.int b2), .val (.int b3), .val (.int rv), .unset, .unset, .unset, .unset, .unset, .unset, .unset] [(.int (1 : Int32)), (.int (b0 + b1))]))
      have q := J139 b0 b1 b2 b3 rv hb0 hb1 hb2 hb3 hrv
      rw [hb2.resolve_left z] at q ⊢
      exact q
  have J118 : ∀ (b0 b1 b2 b3 rv : Int32), (b0 = 0 ∨ b0 = 1) → (b1 = 0 ∨ b1 = 1) → (b2 = 0 ∨ b2 = 1) → (b3 = 0 ∨ b3 = 1) → (rv = 0 ∨ rv = 1) → Ends p e below (fun t o => ∃ v L, o = .returned v ∧ Q0 Z w0 w1 w2 w3 bb sel h0 n0 v t.heap L ∧ FrameEnd s o t L room_1.cells room_1.slots) (T29.setTop (mkF m 118 #[.val (.int w0), .val (.int w1), .val (.int w2), .val (.int w3), .val (.int bb), .val (.int sel), .val (.ref aw), .val (.int b0), .val (.int b1), .val (.int b2), .val (.int b3), .val (.int rv), .unset, .unset, .unset, .unset, .unset, .unset, .unset] [(.int b0)])) := by
    intro b0 b1 b2 b3 rv hb0 hb1 hb2 hb3 hrv
    show Ends p e below _ (T29.setTop (mkF m 118 #[.val (.int w0), .val (.int w1), .val (.int w2), .val (.int w3), .val (.int bb), .val (.int sel), .val (.ref aw), .val (.int b0), .val (.int b1), .val (.int b2), .val (.int b3), .val (.int rv), .unset, .unset, .unset, .unset, .unset, .unset, .unset] [(.int b0)]))
    refine Ends.pre (fun tt kt => XS.iload X29.here hx rfl (hb hby at_118) rfl kt) ?_
    show Ends p e below _ (T29.setTop (mkF m 120 #[.val (.int w0), .val (.int w1), .val (.int w2), .val (.int w3), .val (.int bb), .val (.int sel), .val (.ref aw), .val (.int b0), .val (.int b1), .val (.int b2), .val (.int b3), .val (.int rv), .unset, .unset, .unset, .unset, .unset, .unset, .unset] [(.int b1), (.int b0)]))
    by_cases z : b1 = (0 : Int32)
    ·
      refine Ends.pre (fun tt kt => XS.ifYes X29.here hx rfl (pc0 := 120) (pc' := 127) rfl (hb hby at_120) rfl ((if0 _ _).trans (teq z).1) (by decide) (by decide) kt) ?_
      show Ends p e below _ (T29.setTop (mkF m 127 #[.val (.int w0), .val (.int w1), .val (.int w2), .val (.int w3), .val (.int bb), .val (.int sel), .val (.ref aw), .val (.int b0), .val (.int b1), .val (.int b2), .val (.int b3), .val (.int rv), .unset, .unset, .unset, .unset, .unset, .unset, .unset] [(.int b0)]))
      refine Ends.pre (fun tt kt => XS.iconst X29.here hx rfl (hb hby at_127) kt) ?_
      show Ends p e below _ (T29.setTop (mkF m 128 #[.val (.int w0), .val (.int w1), .val (.int w2), .val (.int w3), .val (.int bb), .val (.int sel), .val (.ref aw), .val (.int b0), .val (.int b1), .val (.int b2), .val (.int b3), .val (.int rv), .unset, .unset, .unset, .unset, .unset, .unset, .unset] [(.int (0 : Int32)), (.int b0)]))
      have q := J128 b0 b1 b2 b3 rv hb0 hb1 hb2 hb3 hrv
      rw [z] at q ⊢
      exact q
    ·
      refine Ends.pre (fun tt kt => XS.ifNo X29.here hx rfl (hb hby at_120) rfl ((if0 _ _).trans (feq z).1) kt) ?_
      show Ends p e below _ (T29.setTop (mkF m 123 #[.val (.int w0), .val (.int w1), .val (.int w2), .val (.int w3), .val (.int bb), .val (.int sel), .val (.ref aw), .val (.int b0), .val (.int b1), .val (.int b2), .val (.int b3), .val (.int rv), .unset, .unset, .unset, .unset, .unset, .unset, .unset] [(.int b0)]))
      refine Ends.pre (fun tt kt => XS.iconst X29.here hx rfl (hb hby at_123) kt) ?_
      show Ends p e below _ (T29.setTop (mkF m 124 #[.val (.int w0), .val (.int w1), .val (.int w2), .val (.int w3), .val (.int bb), .val (.int sel), .val (.ref aw), .val (.int b0), .val (.int b1), .val (.int b2), .val (.int b3), .val (.int rv), .unset, .unset, .unset, .unset, .unset, .unset, .unset] [(.int (1 : Int32)), (.int b0)]))
      refine Ends.pre (fun tt kt => XS.goto X29.here hx rfl (pc0 := 124) (pc' := 128) rfl (hb hby at_124) (by decide) (by decide) kt) ?_
      show Ends p e below _ (T29.setTop (mkF m 128 #[.val (.int w0), .val (.int w1), .val (.int w2), .val (.int w3), .val (.int bb), .val (.int sel), .val (.ref aw), .val (.int b0), .val (.int b1), .val (.int b2), .val (.int b3), .val (.int rv), .unset, .unset, .unset, .unset, .unset, .unset, .unset] [(.int (1 : Int32)), (.int b0)]))
      have q := J128 b0 b1 b2 b3 rv hb0 hb1 hb2 hb3 hrv
      rw [hb1.resolve_left z] at q ⊢
      exact q
  have J106 : ∀ (b0 b1 b2 b3 rv : Int32), (b0 = 0 ∨ b0 = 1) → (b1 = 0 ∨ b1 = 1) → (b2 = 0 ∨ b2 = 1) → (b3 = 0 ∨ b3 = 1) → (rv = 0 ∨ rv = 1) → Ends p e below (fun t o => ∃ v L, o = .returned v ∧ Q0 Z w0 w1 w2 w3 bb sel h0 n0 v t.heap L ∧ FrameEnd s o t L room_1.cells room_1.slots) (T29.setTop (mkF m 106 #[.val (.int w0), .val (.int w1), .val (.int w2), .val (.int w3), .val (.int bb), .val (.int sel), .val (.ref aw), .val (.int b0), .val (.int b1), .val (.int b2), .val (.int b3), .unset, .unset, .unset, .unset, .unset, .unset, .unset, .unset] [(.int rv)])) := by
    intro b0 b1 b2 b3 rv hb0 hb1 hb2 hb3 hrv
    show Ends p e below _ (T29.setTop (mkF m 106 #[.val (.int w0), .val (.int w1), .val (.int w2), .val (.int w3), .val (.int bb), .val (.int sel), .val (.ref aw), .val (.int b0), .val (.int b1), .val (.int b2), .val (.int b3), .unset, .unset, .unset, .unset, .unset, .unset, .unset, .unset] [(.int rv)]))
    refine Ends.pre (fun tt kt => XS.istore X29.here hx rfl (hb hby at_106) rfl (l' := #[.val (.int w0), .val (.int w1), .val (.int w2), .val (.int w3), .val (.int bb), .val (.int sel), .val (.ref aw), .val (.int b0), .val (.int b1), .val (.int b2), .val (.int b3), .val (.int rv), .unset, .unset, .unset, .unset, .unset, .unset, .unset]) rfl kt) ?_
    show Ends p e below _ (T29.setTop (mkF m 108 #[.val (.int w0), .val (.int w1), .val (.int w2), .val (.int w3), .val (.int bb), .val (.int sel), .val (.ref aw), .val (.int b0), .val (.int b1), .val (.int b2), .val (.int b3), .val (.int rv), .unset, .unset, .unset, .unset, .unset, .unset, .unset] []))
    refine Ends.pre (fun tt kt => XS.iload X29.here hx rfl (hb hby at_108) rfl kt) ?_
    show Ends p e below _ (T29.setTop (mkF m 110 #[.val (.int w0), .val (.int w1), .val (.int w2), .val (.int w3), .val (.int bb), .val (.int sel), .val (.ref aw), .val (.int b0), .val (.int b1), .val (.int b2), .val (.int b3), .val (.int rv), .unset, .unset, .unset, .unset, .unset, .unset, .unset] [(.int b0)]))
    by_cases z : b0 = (0 : Int32)
    ·
      refine Ends.pre (fun tt kt => XS.ifYes X29.here hx rfl (pc0 := 110) (pc' := 117) rfl (hb hby at_110) rfl ((if0 _ _).trans (teq z).1) (by decide) (by decide) kt) ?_
      show Ends p e below _ (T29.setTop (mkF m 117 #[.val (.int w0), .val (.int w1), .val (.int w2), .val (.int w3), .val (.int bb), .val (.int sel), .val (.ref aw), .val (.int b0), .val (.int b1), .val (.int b2), .val (.int b3), .val (.int rv), .unset, .unset, .unset, .unset, .unset, .unset, .unset] []))
      refine Ends.pre (fun tt kt => XS.iconst X29.here hx rfl (hb hby at_117) kt) ?_
      show Ends p e below _ (T29.setTop (mkF m 118 #[.val (.int w0), .val (.int w1), .val (.int w2), .val (.int w3), .val (.int bb), .val (.int sel), .val (.ref aw), .val (.int b0), .val (.int b1), .val (.int b2), .val (.int b3), .val (.int rv), .unset, .unset, .unset, .unset, .unset, .unset, .unset] [(.int (0 : Int32))]))
      have q := J118 b0 b1 b2 b3 rv hb0 hb1 hb2 hb3 hrv
      rw [z] at q ⊢
      exact q
    ·
      refine Ends.pre (fun tt kt => XS.ifNo X29.here hx rfl (hb hby at_110) rfl ((if0 _ _).trans (feq z).1) kt) ?_
      show Ends p e below _ (T29.setTop (mkF m 113 #[.val (.int w0), .val (.int w1), .val (.int w2), .val (.int w3), .val (.int bb), .val (.int sel), .val (.ref aw), .val (.int b0), .val (.int b1), .val (.int b2), .val (.int b3), .val (.int rv), .unset, .unset, .unset, .unset, .unset, .unset, .unset] []))
      refine Ends.pre (fun tt kt => XS.iconst X29.here hx rfl (hb hby at_113) kt) ?_
      show Ends p e below _ (T29.setTop (mkF m 114 #[.val (.int w0), .val (.int w1), .val (.int w2), .val (.int w3), .val (.int bb), .val (.int sel), .val (.ref aw), .val (.int b0), .val (.int b1), .val (.int b2), .val (.int b3), .val (.int rv), .unset, .unset, .unset, .unset, .unset, .unset, .unset] [(.int (1 : Int32))]))
      refine Ends.pre (fun tt kt => XS.goto X29.here hx rfl (pc0 := 114) (pc' := 118) rfl (hb hby at_114) (by decide) (by decide) kt) ?_
      show Ends p e below _ (T29.setTop (mkF m 118 #[.val (.int w0), .val (.int w1), .val (.int w2), .val (.int w3), .val (.int bb), .val (.int sel), .val (.ref aw), .val (.int b0), .val (.int b1), .val (.int b2), .val (.int b3), .val (.int rv), .unset, .unset, .unset, .unset, .unset, .unset, .unset] [(.int (1 : Int32))]))
      have q := J118 b0 b1 b2 b3 rv hb0 hb1 hb2 hb3 hrv
      rw [hb0.resolve_left z] at q ⊢
      exact q
  have J91 : ∀ (b0 b1 b2 b3 : Int32), (b0 = 0 ∨ b0 = 1) → (b1 = 0 ∨ b1 = 1) → (b2 = 0 ∨ b2 = 1) → (b3 = 0 ∨ b3 = 1) → Ends p e below (fun t o => ∃ v L, o = .returned v ∧ Q0 Z w0 w1 w2 w3 bb sel h0 n0 v t.heap L ∧ FrameEnd s o t L room_1.cells room_1.slots) (T29.setTop (mkF m 91 #[.val (.int w0), .val (.int w1), .val (.int w2), .val (.int w3), .val (.int bb), .val (.int sel), .val (.ref aw), .val (.int b0), .val (.int b1), .val (.int b2), .unset, .unset, .unset, .unset, .unset, .unset, .unset, .unset, .unset] [(.int b3)])) := by
    intro b0 b1 b2 b3 hb0 hb1 hb2 hb3
    show Ends p e below _ (T29.setTop (mkF m 91 #[.val (.int w0), .val (.int w1), .val (.int w2), .val (.int w3), .val (.int bb), .val (.int sel), .val (.ref aw), .val (.int b0), .val (.int b1), .val (.int b2), .unset, .unset, .unset, .unset, .unset, .unset, .unset, .unset, .unset] [(.int b3)]))
    refine Ends.pre (fun tt kt => XS.istore X29.here hx rfl (hb hby at_91) rfl (l' := #[.val (.int w0), .val (.int w1), .val (.int w2), .val (.int w3), .val (.int bb), .val (.int sel), .val (.ref aw), .val (.int b0), .val (.int b1), .val (.int b2), .val (.int b3), .unset, .unset, .unset, .unset, .unset, .unset, .unset, .unset]) rfl kt) ?_
    show Ends p e below _ (T29.setTop (mkF m 93 #[.val (.int w0), .val (.int w1), .val (.int w2), .val (.int w3), .val (.int bb), .val (.int sel), .val (.ref aw), .val (.int b0), .val (.int b1), .val (.int b2), .val (.int b3), .unset, .unset, .unset, .unset, .unset, .unset, .unset, .unset] []))
    refine Ends.pre (fun tt kt => XS.iload X29.here hx rfl (hb hby at_93) rfl kt) ?_
    show Ends p e below _ (T29.setTop (mkF m 95 #[.val (.int w0), .val (.int w1), .val (.int w2), .val (.int w3), .val (.int bb), .val (.int sel), .val (.ref aw), .val (.int b0), .val (.int b1), .val (.int b2), .val (.int b3), .unset, .unset, .unset, .unset, .unset, .unset, .unset, .unset] [(.int sel)]))
    refine Ends.pre (fun tt kt => XS.bipush X29.here hx rfl (hb hby at_95) kt) ?_
    show Ends p e below _ (T29.setTop (mkF m 97 #[.val (.int w0), .val (.int w1), .val (.int w2), .val (.int w3), .val (.int bb), .val (.int sel), .val (.ref aw), .val (.int b0), .val (.int b1), .val (.int b2), .val (.int b3), .unset, .unset, .unset, .unset, .unset, .unset, .unset, .unset] [(.int (16 : Int32)), (.int sel)]))
    refine Ends.pre (fun tt kt => XS.iand X29.here hx rfl (hb hby at_97) rfl kt) ?_
    show Ends p e below _ (T29.setTop (mkF m 98 #[.val (.int w0), .val (.int w1), .val (.int w2), .val (.int w3), .val (.int bb), .val (.int sel), .val (.ref aw), .val (.int b0), .val (.int b1), .val (.int b2), .val (.int b3), .unset, .unset, .unset, .unset, .unset, .unset, .unset, .unset] [(.int (sel &&& (16 : Int32)))]))
    by_cases z : (sel &&& (16 : Int32)) = (0 : Int32)
    ·
      refine Ends.pre (fun tt kt => XS.ifYes X29.here hx rfl (pc0 := 98) (pc' := 105) rfl (hb hby at_98) rfl ((if0 _ _).trans (teq z).1) (by decide) (by decide) kt) ?_
      show Ends p e below _ (T29.setTop (mkF m 105 #[.val (.int w0), .val (.int w1), .val (.int w2), .val (.int w3), .val (.int bb), .val (.int sel), .val (.ref aw), .val (.int b0), .val (.int b1), .val (.int b2), .val (.int b3), .unset, .unset, .unset, .unset, .unset, .unset, .unset, .unset] []))
      refine Ends.pre (fun tt kt => XS.iconst X29.here hx rfl (hb hby at_105) kt) ?_
      show Ends p e below _ (T29.setTop (mkF m 106 #[.val (.int w0), .val (.int w1), .val (.int w2), .val (.int w3), .val (.int bb), .val (.int sel), .val (.ref aw), .val (.int b0), .val (.int b1), .val (.int b2), .val (.int b3), .unset, .unset, .unset, .unset, .unset, .unset, .unset, .unset] [(.int (0 : Int32))]))
      exact J106 b0 b1 b2 b3 0 hb0 hb1 hb2 hb3 (Or.inl rfl)
    ·
      refine Ends.pre (fun tt kt => XS.ifNo X29.here hx rfl (hb hby at_98) rfl ((if0 _ _).trans (feq z).1) kt) ?_
      show Ends p e below _ (T29.setTop (mkF m 101 #[.val (.int w0), .val (.int w1), .val (.int w2), .val (.int w3), .val (.int bb), .val (.int sel), .val (.ref aw), .val (.int b0), .val (.int b1), .val (.int b2), .val (.int b3), .unset, .unset, .unset, .unset, .unset, .unset, .unset, .unset] []))
      refine Ends.pre (fun tt kt => XS.iconst X29.here hx rfl (hb hby at_101) kt) ?_
      show Ends p e below _ (T29.setTop (mkF m 102 #[.val (.int w0), .val (.int w1), .val (.int w2), .val (.int w3), .val (.int bb), .val (.int sel), .val (.ref aw), .val (.int b0), .val (.int b1), .val (.int b2), .val (.int b3), .unset, .unset, .unset, .unset, .unset, .unset, .unset, .unset] [(.int (1 : Int32))]))
      refine Ends.pre (fun tt kt => XS.goto X29.here hx rfl (pc0 := 102) (pc' := 106) rfl (hb hby at_102) (by decide) (by decide) kt) ?_
      show Ends p e below _ (T29.setTop (mkF m 106 #[.val (.int w0), .val (.int w1), .val (.int w2), .val (.int w3), .val (.int bb), .val (.int sel), .val (.ref aw), .val (.int b0), .val (.int b1), .val (.int b2), .val (.int b3), .unset, .unset, .unset, .unset, .unset, .unset, .unset, .unset] [(.int (1 : Int32))]))
      exact J106 b0 b1 b2 b3 1 hb0 hb1 hb2 hb3 (Or.inr rfl)
  have J76 : ∀ (b0 b1 b2 : Int32), (b0 = 0 ∨ b0 = 1) → (b1 = 0 ∨ b1 = 1) → (b2 = 0 ∨ b2 = 1) → Ends p e below (fun t o => ∃ v L, o = .returned v ∧ Q0 Z w0 w1 w2 w3 bb sel h0 n0 v t.heap L ∧ FrameEnd s o t L room_1.cells room_1.slots) (T29.setTop (mkF m 76 #[.val (.int w0), .val (.int w1), .val (.int w2), .val (.int w3), .val (.int bb), .val (.int sel), .val (.ref aw), .val (.int b0), .val (.int b1), .unset, .unset, .unset, .unset, .unset, .unset, .unset, .unset, .unset, .unset] [(.int b2)])) := by
    intro b0 b1 b2 hb0 hb1 hb2
    show Ends p e below _ (T29.setTop (mkF m 76 #[.val (.int w0), .val (.int w1), .val (.int w2), .val (.int w3), .val (.int bb), .val (.int sel), .val (.ref aw), .val (.int b0), .val (.int b1), .unset, .unset, .unset, .unset, .unset, .unset, .unset, .unset, .unset, .unset] [(.int b2)]))
    refine Ends.pre (fun tt kt => XS.istore X29.here hx rfl (hb hby at_76) rfl (l' := #[.val (.int w0), .val (.int w1), .val (.int w2), .val (.int w3), .val (.int bb), .val (.int sel), .val (.ref aw), .val (.int b0), .val (.int b1), .val (.int b2), .unset, .unset, .unset, .unset, .unset, .unset, .unset, .unset, .unset]) rfl kt) ?_
    show Ends p e below _ (T29.setTop (mkF m 78 #[.val (.int w0), .val (.int w1), .val (.int w2), .val (.int w3), .val (.int bb), .val (.int sel), .val (.ref aw), .val (.int b0), .val (.int b1), .val (.int b2), .unset, .unset, .unset, .unset, .unset, .unset, .unset, .unset, .unset] []))
    refine Ends.pre (fun tt kt => XS.iload X29.here hx rfl (hb hby at_78) rfl kt) ?_
    show Ends p e below _ (T29.setTop (mkF m 80 #[.val (.int w0), .val (.int w1), .val (.int w2), .val (.int w3), .val (.int bb), .val (.int sel), .val (.ref aw), .val (.int b0), .val (.int b1), .val (.int b2), .unset, .unset, .unset, .unset, .unset, .unset, .unset, .unset, .unset] [(.int sel)]))
    refine Ends.pre (fun tt kt => XS.bipush X29.here hx rfl (hb hby at_80) kt) ?_
    show Ends p e below _ (T29.setTop (mkF m 82 #[.val (.int w0), .val (.int w1), .val (.int w2), .val (.int w3), .val (.int bb), .val (.int sel), .val (.ref aw), .val (.int b0), .val (.int b1), .val (.int b2), .unset, .unset, .unset, .unset, .unset, .unset, .unset, .unset, .unset] [(.int (8 : Int32)), (.int sel)]))
    refine Ends.pre (fun tt kt => XS.iand X29.here hx rfl (hb hby at_82) rfl kt) ?_
    show Ends p e below _ (T29.setTop (mkF m 83 #[.val (.int w0), .val (.int w1), .val (.int w2), .val (.int w3), .val (.int bb), .val (.int sel), .val (.ref aw), .val (.int b0), .val (.int b1), .val (.int b2), .unset, .unset, .unset, .unset, .unset, .unset, .unset, .unset, .unset] [(.int (sel &&& (8 : Int32)))]))
    by_cases z : (sel &&& (8 : Int32)) = (0 : Int32)
    ·
      refine Ends.pre (fun tt kt => XS.ifYes X29.here hx rfl (pc0 := 83) (pc' := 90) rfl (hb hby at_83) rfl ((if0 _ _).trans (teq z).1) (by decide) (by decide) kt) ?_
      show Ends p e below _ (T29.setTop (mkF m 90 #[.val (.int w0), .val (.int w1), .val (.int w2), .val (.int w3), .val (.int bb), .val (.int sel), .val (.ref aw), .val (.int b0), .val (.int b1), .val (.int b2), .unset, .unset, .unset, .unset, .unset, .unset, .unset, .unset, .unset] []))
      refine Ends.pre (fun tt kt => XS.iconst X29.here hx rfl (hb hby at_90) kt) ?_
      show Ends p e below _ (T29.setTop (mkF m 91 #[.val (.int w0), .val (.int w1), .val (.int w2), .val (.int w3), .val (.int bb), .val (.int sel), .val (.ref aw), .val (.int b0), .val (.int b1), .val (.int b2), .unset, .unset, .unset, .unset, .unset, .unset, .unset, .unset, .unset] [(.int (0 : Int32))]))
      exact J91 b0 b1 b2 0 hb0 hb1 hb2 (Or.inl rfl)
    ·
      refine Ends.pre (fun tt kt => XS.ifNo X29.here hx rfl (hb hby at_83) rfl ((if0 _ _).trans (feq z).1) kt) ?_
      show Ends p e below _ (T29.setTop (mkF m 86 #[.val (.int w0), .val (.int w1), .val (.int w2), .val (.int w3), .val (.int bb), .val (.int sel), .val (.ref aw), .val (.int b0), .val (.int b1), .val (.int b2), .unset, .unset, .unset, .unset, .unset, .unset, .unset, .unset, .unset] []))
      refine Ends.pre (fun tt kt => XS.iconst X29.here hx rfl (hb hby at_86) kt) ?_
      show Ends p e below _ (T29.setTop (mkF m 87 #[.val (.int w0), .val (.int w1), .val (.int w2), .val (.int w3), .val (.int bb), .val (.int sel), .val (.ref aw), .val (.int b0), .val (.int b1), .val (.int b2), .unset, .unset, .unset, .unset, .unset, .unset, .unset, .unset, .unset] [(.int (1 : Int32))]))
      refine Ends.pre (fun tt kt => XS.goto X29.here hx rfl (pc0 := 87) (pc' := 91) rfl (hb hby at_87) (by decide) (by decide) kt) ?_
      show Ends p e below _ (T29.setTop (mkF m 91 #[.val (.int w0), .val (.int w1), .val (.int w2), .val (.int w3), .val (.int bb), .val (.int sel), .val (.ref aw), .val (.int b0), .val (.int b1), .val (.int b2), .unset, .unset, .unset, .unset, .unset, .unset, .unset, .unset, .unset] [(.int (1 : Int32))]))
      exact J91 b0 b1 b2 1 hb0 hb1 hb2 (Or.inr rfl)
  have J62 : ∀ (b0 b1 : Int32), (b0 = 0 ∨ b0 = 1) → (b1 = 0 ∨ b1 = 1) → Ends p e below (fun t o => ∃ v L, o = .returned v ∧ Q0 Z w0 w1 w2 w3 bb sel h0 n0 v t.heap L ∧ FrameEnd s o t L room_1.cells room_1.slots) (T29.setTop (mkF m 62 #[.val (.int w0), .val (.int w1), .val (.int w2), .val (.int w3), .val (.int bb), .val (.int sel), .val (.ref aw), .val (.int b0), .unset, .unset, .unset, .unset, .unset, .unset, .unset, .unset, .unset, .unset, .unset] [(.int b1)])) := by
    intro b0 b1 hb0 hb1
    show Ends p e below _ (T29.setTop (mkF m 62 #[.val (.int w0), .val (.int w1), .val (.int w2), .val (.int w3), .val (.int bb), .val (.int sel), .val (.ref aw), .val (.int b0), .unset, .unset, .unset, .unset, .unset, .unset, .unset, .unset, .unset, .unset, .unset] [(.int b1)]))
    refine Ends.pre (fun tt kt => XS.istore X29.here hx rfl (hb hby at_62) rfl (l' := #[.val (.int w0), .val (.int w1), .val (.int w2), .val (.int w3), .val (.int bb), .val (.int sel), .val (.ref aw), .val (.int b0), .val (.int b1), .unset, .unset, .unset, .unset, .unset, .unset, .unset, .unset, .unset, .unset]) rfl kt) ?_
    show Ends p e below _ (T29.setTop (mkF m 64 #[.val (.int w0), .val (.int w1), .val (.int w2), .val (.int w3), .val (.int bb), .val (.int sel), .val (.ref aw), .val (.int b0), .val (.int b1), .unset, .unset, .unset, .unset, .unset, .unset, .unset, .unset, .unset, .unset] []))
    refine Ends.pre (fun tt kt => XS.iload X29.here hx rfl (hb hby at_64) rfl kt) ?_
    show Ends p e below _ (T29.setTop (mkF m 66 #[.val (.int w0), .val (.int w1), .val (.int w2), .val (.int w3), .val (.int bb), .val (.int sel), .val (.ref aw), .val (.int b0), .val (.int b1), .unset, .unset, .unset, .unset, .unset, .unset, .unset, .unset, .unset, .unset] [(.int sel)]))
    refine Ends.pre (fun tt kt => XS.iconst X29.here hx rfl (hb hby at_66) kt) ?_
    show Ends p e below _ (T29.setTop (mkF m 67 #[.val (.int w0), .val (.int w1), .val (.int w2), .val (.int w3), .val (.int bb), .val (.int sel), .val (.ref aw), .val (.int b0), .val (.int b1), .unset, .unset, .unset, .unset, .unset, .unset, .unset, .unset, .unset, .unset] [(.int (4 : Int32)), (.int sel)]))
    refine Ends.pre (fun tt kt => XS.iand X29.here hx rfl (hb hby at_67) rfl kt) ?_
    show Ends p e below _ (T29.setTop (mkF m 68 #[.val (.int w0), .val (.int w1), .val (.int w2), .val (.int w3), .val (.int bb), .val (.int sel), .val (.ref aw), .val (.int b0), .val (.int b1), .unset, .unset, .unset, .unset, .unset, .unset, .unset, .unset, .unset, .unset] [(.int (sel &&& (4 : Int32)))]))
    by_cases z : (sel &&& (4 : Int32)) = (0 : Int32)
    ·
      refine Ends.pre (fun tt kt => XS.ifYes X29.here hx rfl (pc0 := 68) (pc' := 75) rfl (hb hby at_68) rfl ((if0 _ _).trans (teq z).1) (by decide) (by decide) kt) ?_
      show Ends p e below _ (T29.setTop (mkF m 75 #[.val (.int w0), .val (.int w1), .val (.int w2), .val (.int w3), .val (.int bb), .val (.int sel), .val (.ref aw), .val (.int b0), .val (.int b1), .unset, .unset, .unset, .unset, .unset, .unset, .unset, .unset, .unset, .unset] []))
      refine Ends.pre (fun tt kt => XS.iconst X29.here hx rfl (hb hby at_75) kt) ?_
      show Ends p e below _ (T29.setTop (mkF m 76 #[.val (.int w0), .val (.int w1), .val (.int w2), .val (.int w3), .val (.int bb), .val (.int sel), .val (.ref aw), .val (.int b0), .val (.int b1), .unset, .unset, .unset, .unset, .unset, .unset, .unset, .unset, .unset, .unset] [(.int (0 : Int32))]))
      exact J76 b0 b1 0 hb0 hb1 (Or.inl rfl)
    ·
      refine Ends.pre (fun tt kt => XS.ifNo X29.here hx rfl (hb hby at_68) rfl ((if0 _ _).trans (feq z).1) kt) ?_
      show Ends p e below _ (T29.setTop (mkF m 71 #[.val (.int w0), .val (.int w1), .val (.int w2), .val (.int w3), .val (.int bb), .val (.int sel), .val (.ref aw), .val (.int b0), .val (.int b1), .unset, .unset, .unset, .unset, .unset, .unset, .unset, .unset, .unset, .unset] []))
      refine Ends.pre (fun tt kt => XS.iconst X29.here hx rfl (hb hby at_71) kt) ?_
      show Ends p e below _ (T29.setTop (mkF m 72 #[.val (.int w0), .val (.int w1), .val (.int w2), .val (.int w3), .val (.int bb), .val (.int sel), .val (.ref aw), .val (.int b0), .val (.int b1), .unset, .unset, .unset, .unset, .unset, .unset, .unset, .unset, .unset, .unset] [(.int (1 : Int32))]))
      refine Ends.pre (fun tt kt => XS.goto X29.here hx rfl (pc0 := 72) (pc' := 76) rfl (hb hby at_72) (by decide) (by decide) kt) ?_
      show Ends p e below _ (T29.setTop (mkF m 76 #[.val (.int w0), .val (.int w1), .val (.int w2), .val (.int w3), .val (.int bb), .val (.int sel), .val (.ref aw), .val (.int b0), .val (.int b1), .unset, .unset, .unset, .unset, .unset, .unset, .unset, .unset, .unset, .unset] [(.int (1 : Int32))]))
      exact J76 b0 b1 1 hb0 hb1 (Or.inr rfl)
  have J48 : ∀ (b0 : Int32), (b0 = 0 ∨ b0 = 1) → Ends p e below (fun t o => ∃ v L, o = .returned v ∧ Q0 Z w0 w1 w2 w3 bb sel h0 n0 v t.heap L ∧ FrameEnd s o t L room_1.cells room_1.slots) (T29.setTop (mkF m 48 #[.val (.int w0), .val (.int w1), .val (.int w2), .val (.int w3), .val (.int bb), .val (.int sel), .val (.ref aw), .unset, .unset, .unset, .unset, .unset, .unset, .unset, .unset, .unset, .unset, .unset, .unset] [(.int b0)])) := by
    intro b0 hb0
    show Ends p e below _ (T29.setTop (mkF m 48 #[.val (.int w0), .val (.int w1), .val (.int w2), .val (.int w3), .val (.int bb), .val (.int sel), .val (.ref aw), .unset, .unset, .unset, .unset, .unset, .unset, .unset, .unset, .unset, .unset, .unset, .unset] [(.int b0)]))
    refine Ends.pre (fun tt kt => XS.istore X29.here hx rfl (hb hby at_48) rfl (l' := #[.val (.int w0), .val (.int w1), .val (.int w2), .val (.int w3), .val (.int bb), .val (.int sel), .val (.ref aw), .val (.int b0), .unset, .unset, .unset, .unset, .unset, .unset, .unset, .unset, .unset, .unset, .unset]) rfl kt) ?_
    show Ends p e below _ (T29.setTop (mkF m 50 #[.val (.int w0), .val (.int w1), .val (.int w2), .val (.int w3), .val (.int bb), .val (.int sel), .val (.ref aw), .val (.int b0), .unset, .unset, .unset, .unset, .unset, .unset, .unset, .unset, .unset, .unset, .unset] []))
    refine Ends.pre (fun tt kt => XS.iload X29.here hx rfl (hb hby at_50) rfl kt) ?_
    show Ends p e below _ (T29.setTop (mkF m 52 #[.val (.int w0), .val (.int w1), .val (.int w2), .val (.int w3), .val (.int bb), .val (.int sel), .val (.ref aw), .val (.int b0), .unset, .unset, .unset, .unset, .unset, .unset, .unset, .unset, .unset, .unset, .unset] [(.int sel)]))
    refine Ends.pre (fun tt kt => XS.iconst X29.here hx rfl (hb hby at_52) kt) ?_
    show Ends p e below _ (T29.setTop (mkF m 53 #[.val (.int w0), .val (.int w1), .val (.int w2), .val (.int w3), .val (.int bb), .val (.int sel), .val (.ref aw), .val (.int b0), .unset, .unset, .unset, .unset, .unset, .unset, .unset, .unset, .unset, .unset, .unset] [(.int (2 : Int32)), (.int sel)]))
    refine Ends.pre (fun tt kt => XS.iand X29.here hx rfl (hb hby at_53) rfl kt) ?_
    show Ends p e below _ (T29.setTop (mkF m 54 #[.val (.int w0), .val (.int w1), .val (.int w2), .val (.int w3), .val (.int bb), .val (.int sel), .val (.ref aw), .val (.int b0), .unset, .unset, .unset, .unset, .unset, .unset, .unset, .unset, .unset, .unset, .unset] [(.int (sel &&& (2 : Int32)))]))
    by_cases z : (sel &&& (2 : Int32)) = (0 : Int32)
    ·
      refine Ends.pre (fun tt kt => XS.ifYes X29.here hx rfl (pc0 := 54) (pc' := 61) rfl (hb hby at_54) rfl ((if0 _ _).trans (teq z).1) (by decide) (by decide) kt) ?_
      show Ends p e below _ (T29.setTop (mkF m 61 #[.val (.int w0), .val (.int w1), .val (.int w2), .val (.int w3), .val (.int bb), .val (.int sel), .val (.ref aw), .val (.int b0), .unset, .unset, .unset, .unset, .unset, .unset, .unset, .unset, .unset, .unset, .unset] []))
      refine Ends.pre (fun tt kt => XS.iconst X29.here hx rfl (hb hby at_61) kt) ?_
      show Ends p e below _ (T29.setTop (mkF m 62 #[.val (.int w0), .val (.int w1), .val (.int w2), .val (.int w3), .val (.int bb), .val (.int sel), .val (.ref aw), .val (.int b0), .unset, .unset, .unset, .unset, .unset, .unset, .unset, .unset, .unset, .unset, .unset] [(.int (0 : Int32))]))
      exact J62 b0 0 hb0 (Or.inl rfl)
    ·
      refine Ends.pre (fun tt kt => XS.ifNo X29.here hx rfl (hb hby at_54) rfl ((if0 _ _).trans (feq z).1) kt) ?_
      show Ends p e below _ (T29.setTop (mkF m 57 #[.val (.int w0), .val (.int w1), .val (.int w2), .val (.int w3), .val (.int bb), .val (.int sel), .val (.ref aw), .val (.int b0), .unset, .unset, .unset, .unset, .unset, .unset, .unset, .unset, .unset, .unset, .unset] []))
      refine Ends.pre (fun tt kt => XS.iconst X29.here hx rfl (hb hby at_57) kt) ?_
      show Ends p e below _ (T29.setTop (mkF m 58 #[.val (.int w0), .val (.int w1), .val (.int w2), .val (.int w3), .val (.int bb), .val (.int sel), .val (.ref aw), .val (.int b0), .unset, .unset, .unset, .unset, .unset, .unset, .unset, .unset, .unset, .unset, .unset] [(.int (1 : Int32))]))
      refine Ends.pre (fun tt kt => XS.goto X29.here hx rfl (pc0 := 58) (pc' := 62) rfl (hb hby at_58) (by decide) (by decide) kt) ?_
      show Ends p e below _ (T29.setTop (mkF m 62 #[.val (.int w0), .val (.int w1), .val (.int w2), .val (.int w3), .val (.int bb), .val (.int sel), .val (.ref aw), .val (.int b0), .unset, .unset, .unset, .unset, .unset, .unset, .unset, .unset, .unset, .unset, .unset] [(.int (1 : Int32))]))
      exact J62 b0 1 hb0 (Or.inr rfl)
  show Ends p e below _ (T29.setTop (mkF m 36 #[.val (.int w0), .val (.int w1), .val (.int w2), .val (.int w3), .val (.int bb), .val (.int sel), .val (.ref aw), .unset, .unset, .unset, .unset, .unset, .unset, .unset, .unset, .unset, .unset, .unset, .unset] []))
  refine Ends.pre (fun tt kt => XS.iload X29.here hx rfl (hb hby at_36) rfl kt) ?_
  show Ends p e below _ (T29.setTop (mkF m 38 #[.val (.int w0), .val (.int w1), .val (.int w2), .val (.int w3), .val (.int bb), .val (.int sel), .val (.ref aw), .unset, .unset, .unset, .unset, .unset, .unset, .unset, .unset, .unset, .unset, .unset, .unset] [(.int sel)]))
  refine Ends.pre (fun tt kt => XS.iconst X29.here hx rfl (hb hby at_38) kt) ?_
  show Ends p e below _ (T29.setTop (mkF m 39 #[.val (.int w0), .val (.int w1), .val (.int w2), .val (.int w3), .val (.int bb), .val (.int sel), .val (.ref aw), .unset, .unset, .unset, .unset, .unset, .unset, .unset, .unset, .unset, .unset, .unset, .unset] [(.int (1 : Int32)), (.int sel)]))
  refine Ends.pre (fun tt kt => XS.iand X29.here hx rfl (hb hby at_39) rfl kt) ?_
  show Ends p e below _ (T29.setTop (mkF m 40 #[.val (.int w0), .val (.int w1), .val (.int w2), .val (.int w3), .val (.int bb), .val (.int sel), .val (.ref aw), .unset, .unset, .unset, .unset, .unset, .unset, .unset, .unset, .unset, .unset, .unset, .unset] [(.int (sel &&& (1 : Int32)))]))
  by_cases z : (sel &&& (1 : Int32)) = (0 : Int32)
  ·
    refine Ends.pre (fun tt kt => XS.ifYes X29.here hx rfl (pc0 := 40) (pc' := 47) rfl (hb hby at_40) rfl ((if0 _ _).trans (teq z).1) (by decide) (by decide) kt) ?_
    show Ends p e below _ (T29.setTop (mkF m 47 #[.val (.int w0), .val (.int w1), .val (.int w2), .val (.int w3), .val (.int bb), .val (.int sel), .val (.ref aw), .unset, .unset, .unset, .unset, .unset, .unset, .unset, .unset, .unset, .unset, .unset, .unset] []))
    refine Ends.pre (fun tt kt => XS.iconst X29.here hx rfl (hb hby at_47) kt) ?_
    show Ends p e below _ (T29.setTop (mkF m 48 #[.val (.int w0), .val (.int w1), .val (.int w2), .val (.int w3), .val (.int bb), .val (.int sel), .val (.ref aw), .unset, .unset, .unset, .unset, .unset, .unset, .unset, .unset, .unset, .unset, .unset, .unset] [(.int (0 : Int32))]))
    exact J48 0 (Or.inl rfl)
  ·
    refine Ends.pre (fun tt kt => XS.ifNo X29.here hx rfl (hb hby at_40) rfl ((if0 _ _).trans (feq z).1) kt) ?_
    show Ends p e below _ (T29.setTop (mkF m 43 #[.val (.int w0), .val (.int w1), .val (.int w2), .val (.int w3), .val (.int bb), .val (.int sel), .val (.ref aw), .unset, .unset, .unset, .unset, .unset, .unset, .unset, .unset, .unset, .unset, .unset, .unset] []))
    refine Ends.pre (fun tt kt => XS.iconst X29.here hx rfl (hb hby at_43) kt) ?_
    show Ends p e below _ (T29.setTop (mkF m 44 #[.val (.int w0), .val (.int w1), .val (.int w2), .val (.int w3), .val (.int bb), .val (.int sel), .val (.ref aw), .unset, .unset, .unset, .unset, .unset, .unset, .unset, .unset, .unset, .unset, .unset, .unset] [(.int (1 : Int32))]))
    refine Ends.pre (fun tt kt => XS.goto X29.here hx rfl (pc0 := 44) (pc' := 48) rfl (hb hby at_44) (by decide) (by decide) kt) ?_
    show Ends p e below _ (T29.setTop (mkF m 48 #[.val (.int w0), .val (.int w1), .val (.int w2), .val (.int w3), .val (.int bb), .val (.int sel), .val (.ref aw), .unset, .unset, .unset, .unset, .unset, .unset, .unset, .unset, .unset, .unset, .unset, .unset] [(.int (1 : Int32))]))
    exact J48 1 (Or.inr rfl)
set_option maxRecDepth 65536 in
set_option maxHeartbeats 40000000 in
theorem comes_1 {Post : Tables → Env → Array Value → State → Outcome → State → Prop} (hpost : ∀ tb e args s v u, (limb_1_1.after args s (.returned v) u = true ∧ limb_1_2.after args s (.returned v) u = true ∧ True) → FrameEnd s (.returned v) u (Jvm.fieldLocs frame_1_writes args s ++ Jvm.arrayLocs frame_1_arrays args s ++ Jvm.staticLocs frame_1_statics s) 16 128 → Post tb e args s (.returned v) u) :
    ArmFor flags0 classFile x code maxLocals ret World_1 tables_1 room_1 Calls_1 rest_1 Pre_1 Post := by
  intro l hfl _ _ p e ha hc hk s m args below hf hA hF happ hP
  obtain ⟨hcalls, hrest, hpre⟩ := hP
  obtain ⟨-, -, -, hnamed, -, -, -, hat⟩ := (Spec.applies_iff hf).mp happ
  obtain ⟨hg, hn⟩ := and_e (Cond.before_iff.mp (show (Jvm.Cond.and given_1 narrow_1).before args s = true from hpre))
  obtain ⟨gc, gg⟩ := and_e hg
  obtain ⟨ga0, gb0⟩ := and_e gg
  obtain ⟨ga1, gb1⟩ := and_e gb0
  obtain ⟨ga2, gb2⟩ := and_e gb1
  obtain ⟨ga3, gb3⟩ := and_e gb2
  obtain ⟨ga4, gb4⟩ := and_e gb3
  obtain ⟨w0, w1, w2, w3, w4, w5, rfl⟩ : ∃ w0 w1 w2 w3 w4 w5 : Value, args = #[w0, w1, w2, w3, w4, w5] := by
    have hs : args.size = 6 := by simpa [Cond.value, given_1] using gc
    obtain ⟨L⟩ := args
    match L, hs with
    | [w0, w1, w2, w3, w4, w5], _ => exact ⟨w0, w1, w2, w3, w4, w5, rfl⟩
  have hw := fun d (hd : d ∈ tables_1) => atoms_spec (ws := Jvm.Cond.code x code maxLocals ret :: tables_1) hat d (List.mem_cons_of_mem _ hd)
  obtain ⟨i0, ei0⟩ := is_v ga0
  obtain rfl : w0 = (.int i0) := Option.some.inj ei0
  obtain ⟨i1, ei1⟩ := is_v ga1
  obtain rfl : w1 = (.int i1) := Option.some.inj ei1
  obtain ⟨i2, ei2⟩ := is_v ga2
  obtain rfl : w2 = (.int i2) := Option.some.inj ei2
  obtain ⟨i3, ei3⟩ := is_v ga3
  obtain rfl : w3 = (.int i3) := Option.some.inj ei3
  obtain ⟨i4, ei4⟩ := is_v ga4
  obtain rfl : w4 = (.int i4) := Option.some.inj ei4
  obtain ⟨i5, ei5⟩ := is_v gb4
  obtain rfl : w5 = (.int i5) := Option.some.inj ei5
  obtain ⟨n, o, h1, h2, h3, _, L, rfl, ⟨rfl, N⟩, hq⟩ := rm0 l s _ hw tables_1 i0 i1 i2 i3 i4 i5 s.heap s.heap.size (Nat.le_refl _)  p e ha hc hk s m _ below hf ((Spec.applies_iff_loose hf).mp happ).1 ⟨rfl, State.Warmed39.refl s, rfl⟩ trivial
  refine ⟨n, _, h1, h2, h3, hpost _ _ _ _ _ _ ⟨Cond.after_iff.mpr rfl, Cond.after_iff.mpr (eq_i res_at (Term.int_eval (1)) rfl), trivial⟩ ⟨hq.1, hq.2.1, (hq.2.2.sift fun y hy => Or.inr (N y hy)).mono (by decide) (by decide)⟩⟩
theorem main_1_1 : Claimed_1_1 := comes_1 fun _ _ _ _ _ _ h hF => ⟨h.1, hF⟩
theorem main_1_2 : Claimed_1_2 := comes_1 fun _ _ _ _ _ _ h hF => ⟨h.2.1, hF⟩
end Jvm.Pilot.@@N@@
namespace Jvm.Pilot.@@N@@
open Jvm Jvm.ClassFile Sem Op Lib Jvm.Free Jvm.Stand Jvm.Pilot.@@N@@.Jvm.D
/-! MADE BY PROGRAM (witnessworld.py) out of the Statement's table words and the real class files: 9 classes; the members and pool entries that the words name. The judged class is class 1, her method 1. -/
namespace start1
open Jvm.ClassFile
def u (s : String) : CpInfo := .utf8 (stringToUtf16 s)
/-- a pool by its gaps: so many unusable entries, then the entry; so many at the end -/
def gap : Nat → List CpInfo → List CpInfo
  | 0, r => r
  | n + 1, r => .unusable :: gap n r
def poolList (es : List (Nat × CpInfo)) (last : Nat) : List CpInfo := es.foldr (fun e r => gap e.1 (e.2 :: r)) (gap last [])
def pool (es : List (Nat × CpInfo)) (last : Nat) : Array CpInfo := ⟨poolList es last⟩
def fileOf (pool : Array CpInfo) (this : Nat) (attrs : Array Attribute := #[]) (ms : Array MethodInfo := #[]) (fl : Nat := 33) (sup : Nat := 0) (ifs : Array Nat := #[]) (fds : Array FieldInfo := #[]) : ClassFile where
  minorVersion := 0
  majorVersion := 65
  constantPool := pool
  accessFlags := fl
  thisClass := this
  superClass := sup
  interfaces := ifs
  fields := fds
  methods := ms
  attributes := attrs
def plain (name : String) (sup : Option ClassId) : Class where
  name := name
  kind := .ordinary
  loader := none
  accessFlags := 33
  super := sup
  interfaces := #[]
  cf := none
  fields := #[]
  methods := #[]
  instanceTypes := #[]
  staticTypes := #[]
  resolved := #[]
  callSites := []
  init := .initialized
  statics := none
  mirror := none

def pool0 : Array CpInfo := pool [(5, u "<init>"), (0, u "()V"), (1, .class_ 10), (1, u "java/lang/Object")] 113

def k0m0 : Method := { name := "<init>", desc := "()V", sig := { parameters := [], returnType := none }, accessFlags := 1, code := none }
/-- java/lang/Object -/
def k0 : Class := { plain "java/lang/Object" none with
  accessFlags := 33
  interfaces := #[]
  cf := some (fileOf pool0 8 #[] #[{ accessFlags := 1, nameIndex := 5, descriptorIndex := 6, attributes := #[] }] 33 0 #[] #[])
  fields := #[]
  methods := #[k0m0]
  instanceTypes := #[]
  staticTypes := #[]
  resolved := Array.replicate 124 none
  statics := none }

def pool1 : Array CpInfo := pool [(2, .class_ 4), (1, u "java/lang/Object"), (0, u "<init>"), (0, u "()V"), (0, .methodref 8 9), (0, .class_ 10), (0, .nameAndType 11 12), (0, u "com/example/haku/haku/triage/LogisticRegression"), (0, u "logOdds"), (0, u "([I[D)D"), (0, .class_ 14), (0, u "com/example/haku/haku/triage/LogisticRegressionLogOddsPinLaw"), (2, u "law"), (0, u "(IIIIII)Z")] 7

def k1m0 : Method := { name := "<init>", desc := "()V", sig := { parameters := [], returnType := none }, accessFlags := 1, code := none }
def k1c1 : Code := { maxStack := 4, maxLocals := 19, code := code, exceptionTable := #[], attributes := #[] }
def k1m1 : Method := { name := "law", desc := "(IIIIII)Z", sig := { parameters := [.int, .int, .int, .int, .int, .int], returnType := some .boolean }, accessFlags := 9, code := some k1c1 }
/-- com/example/haku/haku/triage/LogisticRegressionLogOddsPinLaw -/
def k1 : Class := { plain "com/example/haku/haku/triage/LogisticRegressionLogOddsPinLaw" (some 0) with
  accessFlags := 49
  interfaces := #[]
  cf := some (fileOf pool1 13 #[] #[{ accessFlags := 1, nameIndex := 5, descriptorIndex := 6, attributes := #[] }, { accessFlags := 9, nameIndex := 17, descriptorIndex := 18, attributes := #[] }] 49 2 #[] #[])
  fields := #[]
  methods := #[k1m0, k1m1]
  instanceTypes := #[]
  staticTypes := #[]
  resolved := Array.replicate 26 none
  statics := none }

def pool2 : Array CpInfo := pool [(2, .class_ 4), (1, u "java/lang/Object"), (0, u "<init>"), (0, u "()V"), (1, .class_ 10), (1, u "com/example/haku/haku/triage/LogisticRegression"), (28, u "logOdds"), (0, u "([I[D)D"), (19, u "MOST_STEPS"), (0, u "I"), (2, u "TOLERANCE"), (0, u "D"), (0, u "SHORTEST_STEP"), (0, u "MOST_PASSES"), (1, u "LEAST_CHANGE")] 11

def k2m0 : Method := { name := "<init>", desc := "()V", sig := { parameters := [], returnType := none }, accessFlags := 2, code := none }
def k2c1 : Code := { maxStack := 4, maxLocals := 8, code := prog_31_method_3_code, exceptionTable := #[], attributes := #[] }
def k2m1 : Method := { name := "logOdds", desc := "([I[D)D", sig := { parameters := [(.array .int), (.array .double)], returnType := some .double }, accessFlags := 8, code := some k2c1 }
/-- com/example/haku/haku/triage/LogisticRegression -/
def k2 : Class := { plain "com/example/haku/haku/triage/LogisticRegression" (some 0) with
  accessFlags := 32
  interfaces := #[]
  cf := some (fileOf pool2 8 #[] #[{ accessFlags := 2, nameIndex := 5, descriptorIndex := 6, attributes := #[] }, { accessFlags := 8, nameIndex := 39, descriptorIndex := 40, attributes := #[] }] 32 2 #[] #[{ accessFlags := 26, nameIndex := 60, descriptorIndex := 61, attributes := #[] }, { accessFlags := 26, nameIndex := 64, descriptorIndex := 65, attributes := #[] }, { accessFlags := 26, nameIndex := 66, descriptorIndex := 65, attributes := #[] }, { accessFlags := 26, nameIndex := 67, descriptorIndex := 61, attributes := #[] }, { accessFlags := 26, nameIndex := 69, descriptorIndex := 65, attributes := #[] }])
  fields := #[{ name := "MOST_STEPS", type := .int, accessFlags := 26, slot := 0, constantValue := 0 }, { name := "TOLERANCE", type := .double, accessFlags := 26, slot := 1, constantValue := 0 }, { name := "SHORTEST_STEP", type := .double, accessFlags := 26, slot := 2, constantValue := 0 }, { name := "MOST_PASSES", type := .int, accessFlags := 26, slot := 3, constantValue := 0 }, { name := "LEAST_CHANGE", type := .double, accessFlags := 26, slot := 4, constantValue := 0 }]
  methods := #[k2m0, k2m1]
  instanceTypes := #[]
  staticTypes := #[.int, .double, .double, .int, .double]
  resolved := Array.replicate 81 none
  statics := none }

def pool3 : Array CpInfo := pool [(1, u "java/lang/Cloneable"), (0, .class_ 1), (0, u "java/lang/Object"), (0, .class_ 3)] 3

/-- java/lang/Cloneable -/
def k3 : Class := { plain "java/lang/Cloneable" (some 0) with
  accessFlags := 1537
  interfaces := #[]
  cf := some (fileOf pool3 2 #[] #[] 1537 4 #[] #[])
  fields := #[]
  methods := #[]
  instanceTypes := #[]
  staticTypes := #[]
  resolved := Array.replicate 8 none
  statics := none }

def pool4 : Array CpInfo := pool [(1, u "java/io/Serializable"), (0, .class_ 1), (0, u "java/lang/Object"), (0, .class_ 3)] 3

/-- java/io/Serializable -/
def k4 : Class := { plain "java/io/Serializable" (some 0) with
  accessFlags := 1537
  interfaces := #[]
  cf := some (fileOf pool4 2 #[] #[] 1537 4 #[] #[])
  fields := #[]
  methods := #[]
  instanceTypes := #[]
  staticTypes := #[]
  resolved := Array.replicate 8 none
  statics := none }

/-- the primitive byte -/
def k5 : Class := { plain "byte" none with kind := .primitive 'B', accessFlags := 0x411 }
/-- [B -/
def k6 : Class := { plain "[B" (some 0) with kind := .array 5 .byte, interfaces := #[3, 4], accessFlags := 1041 }

/-- the primitive int -/
def k7 : Class := { plain "int" none with kind := .primitive 'I', accessFlags := 0x411 }
/-- [I -/
def k8 : Class := { plain "[I" (some 0) with kind := .array 7 .int, interfaces := #[3, 4], accessFlags := 1041 }

/-- the primitive double -/
def k9 : Class := { plain "double" none with kind := .primitive 'D', accessFlags := 0x411 }
/-- [D -/
def k10 : Class := { plain "[D" (some 0) with kind := .array 9 .double, interfaces := #[3, 4], accessFlags := 1041 }

def heap : Heap := #[]
def classes : Array Class := #[k0, k1, k2, k3, k4, k5, k6, k7, k8, k9, k10]
def interned : List (Array UInt16 × Addr) := []
def slotsUsed : Nat := 0
def theMethod : MethodId := ⟨1, 1⟩
def args0 : Array Value := #[.int 1, .int 2, .int 3, .int 4, .int 5, .int 11]
def aboutOver (below : List Frame) : State where
  vm := { classes := classes, interned := interned.toArray }
  heap := heap
  slotsUsed := slotsUsed
  threads := #[{ frames := .invoking theMethod args0 :: below }]
def below0 : List Frame := [.native { method := ⟨0, 0⟩, args := #[] }]
def about1 : State := aboutOver below0
def p0 : Program := .bare "" "" ""
def e0 : Env := launch0.env 0 0 0
theorem w_frames : about1.frames = Frame.invoking theMethod args0 :: below0 := rfl
set_option maxRecDepth 65536 in
theorem w_args : argsFit about1.vm theMethod args0 = true := by decide +kernel
set_option maxRecDepth 65536 in
theorem w_heap : heapFits about1 = true := by decide +kernel
set_option maxRecDepth 65536 in
theorem w_runnable : about1.curStatus? = some .runnable := by decide +kernel
set_option maxRecDepth 65536 in
theorem w_alone : about1.alone = true := by decide +kernel
set_option maxRecDepth 65536 in
theorem w_named : about1.methodNamed? x = some theMethod := by decide +kernel
set_option maxRecDepth 65536 in
theorem w_hears : about1.hears theMethod below0 = true := by decide +kernel
set_option maxRecDepth 65536 in
theorem w_ripe : about1.ripe theMethod args0 below0 = true := by decide +kernel
theorem w_running : about1.status = .running := rfl
set_option maxRecDepth 65536 in
theorem w_room : about1.hasRoom e0.platform room_1 = true :=
  launch0.hasRoom_least _ room_1 (by decide +kernel) (by decide +kernel) (by decide +kernel) (by decide +kernel) (by decide +kernel) (by decide +kernel)
theorem allAtoms_all (ts : List Jvm.Cond) (a : Array Jvm.Value) (st : Jvm.State) : (allAtoms ts).before a st = ts.all (fun c => c.before a st) := by
  induction ts with
  | nil => rfl
  | cons c t ih =>
    show (Jvm.Cond.and c (allAtoms t)).before a st = _
    rw [Jvm.Cond.before_and, ih, List.all_cons]
def words1 : List Jvm.Cond := Jvm.Cond.code x code maxLocals ret :: tables_1
/-- a 'code' word, met by the world's own term for the bytes: nothing is compared byte by byte -/
theorem code_word {y : MethodName} {bytes : ByteArray} {mx : Nat} {rt : Option FieldType} {a : Array Value} {s : State} {m : MethodId} {meth : Method} {c : Code} (h1 : s.methodNamed? y = some m) (h2 : s.vm.method? m = some meth) (h3 : meth.code = some c) (h4 : c.code = bytes)
    (h5 : (c.maxLocals == mx && c.exceptionTable.isEmpty && decide (c.maxStack ≤ mostOperands) && decide (meth.sig.returnType = rt) && !meth.locks && decide (parseMethodDescriptor y.desc = some meth.sig)) = true) : (Jvm.Cond.code y bytes mx rt).before a s = true := by
  simp only [Bool.and_eq_true, beq_iff_eq, Bool.not_eq_true', decide_eq_true_eq] at h5
  obtain ⟨⟨⟨⟨⟨g1, g2⟩, g3⟩, g4⟩, g5⟩, g6⟩ := h5
  simp [Cond.before, Cond.holds, Cond.value, h1, h2, h3, h4, g1, g2, g3, g4, g5, g6]
def isCode : Jvm.Cond → Bool
  | .code _ _ _ _ => true
  | _ => false
theorem all_split {L : List Jvm.Cond} {P : Jvm.Cond → Bool} (h1 : L.all (fun c => isCode c || P c) = true) (h2 : ∀ c ∈ L.filter isCode, P c = true) : L.all P = true := by
  refine List.all_eq_true.mpr fun c hc => ?_
  have h := List.all_eq_true.mp h1 c hc
  rcases Bool.eq_false_or_eq_true (isCode c) with hi | hi
  · exact h2 c (List.mem_filter.mpr ⟨hc, hi⟩)
  · simpa [hi] using h
set_option maxRecDepth 65536 in
theorem w_c0 : (Jvm.Cond.code x code maxLocals ret).before args0 about1 = true := code_word (m := ⟨1, 1⟩) (meth := k1m1) (c := k1c1) (by decide +kernel) rfl rfl rfl (by decide +kernel)
set_option maxRecDepth 65536 in
theorem w_c1 : (Jvm.Cond.code ({ cls := "com/example/haku/haku/triage/LogisticRegression", name := "logOdds", desc := "([I[D)D" } : Jvm.MethodName) prog_31_method_3_code (8 : Nat) (Option.some Jvm.ClassFile.FieldType.double)).before args0 about1 = true := code_word (m := ⟨2, 1⟩) (meth := k2m1) (c := k2c1) (by decide +kernel) rfl rfl rfl (by decide +kernel)
def codes1 : List Jvm.Cond := [Jvm.Cond.code x code maxLocals ret, Jvm.Cond.code ({ cls := "com/example/haku/haku/triage/LogisticRegression", name := "logOdds", desc := "([I[D)D" } : Jvm.MethodName) prog_31_method_3_code (8 : Nat) (Option.some Jvm.ClassFile.FieldType.double)]
set_option maxRecDepth 65536 in
theorem codes_eq : words1.filter isCode = codes1 := rfl
theorem w_codes : ∀ c ∈ words1.filter isCode, c.before args0 about1 = true := by
  rw [codes_eq]
  intro c hc
  simp only [codes1, List.mem_cons, List.not_mem_nil, or_false] at hc
  rcases hc with rfl | rfl
  · exact w_c0
  · exact w_c1
set_option maxRecDepth 65536 in
theorem w_t1 : words1.all (fun c => isCode c || c.before args0 about1) = true := by decide +kernel
theorem w_tables : (allAtoms (Jvm.Cond.code x code maxLocals ret :: tables_1)).before args0 about1 = true := by
  rw [allAtoms_all]
  show words1.all (fun c => c.before args0 about1) = true
  refine all_split ?_ w_codes
  rw [w_t1]
set_option maxRecDepth 65536 in
theorem w_case : (Jvm.Cond.and given_1 narrow_1).before args0 about1 = true := by decide +kernel
theorem w_applies : (headSpec (Jvm.Cond.code x code maxLocals ret :: tables_1) room_1).applies x e0.platform about1 = true :=
  (Spec.applies_iff w_frames).mpr ⟨w_running, w_runnable, w_alone, w_named, w_hears, w_ripe, w_room, w_tables⟩
theorem atStart : AtStart classFile x code maxLocals ret World_1 tables_1 room_1 Calls_1 rest_1 Pre_1 launch0 p0 e0 about1 theMethod args0 below0 :=
  ⟨lists_1, trivial, launch0.admits_env _ _ _, launch0.least_env, fairChoices_fair.cas, fairChoices_fair.clock, w_frames, w_args, w_heap, w_applies, trivial, trivial, w_case⟩
end start1
theorem witness_1 : WitnessClaimed_1 := ⟨start1.p0, start1.e0, start1.about1, start1.theMethod, start1.args0, start1.below0, start1.atStart⟩
end Jvm.Pilot.@@N@@
