import JvmDerived
import JvmDerived.Pilot.@@N@@Statement
import JvmDerived.Pilot.@@N@@Code
set_option linter.unusedVariables false
set_option linter.unusedSimpArgs false
namespace Jvm.Pilot.@@N@@
open Jvm Jvm.ClassFile Sem Op Lib Jvm.Free Jvm.Stand Jvm.LawKit Jvm.RoadKit Jvm.Free.Fl Bundle Jvm.Pilot.@@N@@.Jvm.D
/-- from here the run comes to some end at which G holds -/
def Gl (tb : Tables) (e : Env) (below : List Frame) (T : State) (g : JFrame) (G : State → Prop) : Prop := ∃ s₂, Steps tb e below (T.setTop g) s₂ ∧ G s₂
theorem Gl.via {tb : Tables} {e : Env} {below : List Frame} {T T' : State} {g g' : JFrame} {G : State → Prop} (st : ∀ t, Steps tb e below (T'.setTop g') t → Steps tb e below (T.setTop g) t) (k : Gl tb e below T' g' G) : Gl tb e below T g G := by
  obtain ⟨s₂, h1, h2⟩ := k
  exact ⟨s₂, st _ h1, h2⟩
theorem Gl.fin {tb : Tables} {e : Env} {below : List Frame} {T U : State} {g : JFrame} {G : State → Prop} (st : Steps tb e below (T.setTop g) U) (k : G U) : Gl tb e below T g G := ⟨U, st, k⟩
section OwnFP
open Jvm.FP.Core (zmag zval val64 b64 DInt one64 sgn signed inUnits Datum roundRatio quotient good_b64 val64_fits DInt_zval whole_sign whole_zero natAbs_signed qmin_b64 pow_qmin64 zmag_roundRatio_le zmag_roundRatio_ge sgn_roundRatio dcmp_zval compare_lt_iff compare_eq_iff compare_gt_iff one64_pos zval64_zero zval_negate Whole DInt_ne_nan)
theorem own_fin {i : Int} {x : UInt64} (h : DInt i x) : ∃ s c q, val64 x = .fin s c q ∧ b64.qmin ≤ q ∧ c * 2 ^ (q - b64.qmin).toNat = i.natAbs * one64 ∧ (i ≠ 0 → s = decide (i < 0)) ∧ (c = 0 ↔ i = 0) := by
  have hf := val64_fits x
  have hz := DInt_zval h
  have h' : Whole i (val64 x) := h
  generalize val64 x = v at hf hz h'
  cases v with
  | nan => exact h'.elim
  | inf s => exact h'.elim
  | fin s c q =>
    refine ⟨s, c, q, rfl, hf.2.1, ?_, fun hi => whole_sign h' hi, whole_zero h'⟩
    have e := congrArg Int.natAbs (show signed s (c * 2 ^ (q - b64.qmin).toNat) = i * (one64 : Int) from hz)
    rw [natAbs_signed, Int.natAbs_mul, Int.natAbs_natCast] at e
    exact e
theorem own_cmp {v w : UInt64} (hv : val64 v ≠ .nan) (hw : val64 w ≠ .nan) (o : CmpOp) : (zval b64 (val64 v) < zval b64 (val64 w) → cmpValue (FP.dcmp v w) o = -1) ∧ (zval b64 (val64 v) = zval b64 (val64 w) → cmpValue (FP.dcmp v w) o = 0) ∧ (zval b64 (val64 w) < zval b64 (val64 v) → cmpValue (FP.dcmp v w) o = 1) := by
  have e : FP.dcmp v w = some (compare (zval b64 (val64 v)) (zval b64 (val64 w))) := dcmp_zval hv hw
  refine ⟨fun h => ?_, fun h => ?_, fun h => ?_⟩
  · rw [e, (compare_lt_iff _ _).mpr h]; rfl
  · rw [e, (compare_eq_iff _ _).mpr h]; rfl
  · rw [e, (compare_gt_iff _ _).mpr h]; rfl
end OwnFP
section OwnDiv
open Jvm.FP.Core (zmag zval val64 b64 DInt one64 sgn signed inUnits Datum roundRatio quotient good_b64 val64_fits DInt_zval natAbs_signed qmin_b64 pow_qmin64 zmag_roundRatio_le zmag_roundRatio_ge sgn_roundRatio roundRatio_ne_nan one64_pos zval64_zero zval_negate DInt_ne_nan val64_ddiv)
theorem own_quot {s t : Bool} {c e : Nat} {q r : Int} (he : e ≠ 0) : quotient b64 (.fin s c q) (.fin t e r) = roundRatio b64 (s != t) c e (q - r) := if_neg he
theorem own_div {a d : Int} {x y : UInt64} (hx : DInt a x) (hy : DInt d y) (hd : d ≠ 0) : ∃ s t c e q r, 0 < e ∧ val64 (FP.ddiv x y) = roundRatio b64 (s != t) c e (q - r) ∧ b64.qmin ≤ q ∧ b64.qmin ≤ r ∧ c * 2 ^ (q - b64.qmin).toNat = a.natAbs * one64 ∧ e * 2 ^ (r - b64.qmin).toNat = d.natAbs * one64 ∧ (a ≠ 0 → s = decide (a < 0)) ∧ t = decide (d < 0) := by
  obtain ⟨s, c, q, h1, h2, h3, h4, -⟩ := own_fin hx
  obtain ⟨t, e, r, k1, k2, k3, k4, k5⟩ := own_fin hy
  have he : e ≠ 0 := fun z => hd (k5.mp z)
  refine ⟨s, t, c, e, q, r, Nat.pos_of_ne_zero he, ?_, h2, k2, h3, k3, h4, k4 hd⟩
  show val64 (FP.Core.ddiv x y) = _
  rw [val64_ddiv, h1, k1]
  exact own_quot he
theorem own_div_le {a d : Int} {x y : UInt64} {V : Datum} (hx : DInt a x) (hy : DInt d y) (hd : d ≠ 0) (hf : Jvm.FP.Core.fits b64 V) (hV : V ≠ .nan) (h : a.natAbs * one64 ≤ zmag b64 V * d.natAbs) : zmag b64 (val64 (FP.ddiv x y)) ≤ zmag b64 V := by
  obtain ⟨s, t, c, e, q, r, he, h1, h2, k2, h3, k3, -, -⟩ := own_div hx hy hd
  have hq := qmin_b64
  rw [h1]
  refine zmag_roundRatio_le good_b64 he hf hV (e0 := 2 * b64.qmin - r) (by omega) (by omega) ?_
  show c * 2 ^ (q - r - (2 * b64.qmin - r)).toNat ≤ zmag b64 V * 2 ^ (b64.qmin - (2 * b64.qmin - r)).toNat * e
  rw [show (q - r - (2 * b64.qmin - r)).toNat = (q - b64.qmin).toNat + (-b64.qmin).toNat by omega, show (b64.qmin - (2 * b64.qmin - r)).toNat = (r - b64.qmin).toNat by omega, Nat.pow_add, ← Nat.mul_assoc, h3, pow_qmin64, Nat.mul_assoc (zmag b64 V), Nat.mul_comm _ e, k3, ← Nat.mul_assoc]
  exact Nat.mul_le_mul_right _ h
theorem own_div_ge {a d : Int} {x y : UInt64} {V : Datum} (hx : DInt a x) (hy : DInt d y) (hd : d ≠ 0) (hf : Jvm.FP.Core.fits b64 V) (h : zmag b64 V * d.natAbs ≤ a.natAbs * one64) : zmag b64 V ≤ zmag b64 (val64 (FP.ddiv x y)) := by
  obtain ⟨s, t, c, e, q, r, he, h1, h2, k2, h3, k3, -, -⟩ := own_div hx hy hd
  have hq := qmin_b64
  rw [h1]
  refine zmag_roundRatio_ge good_b64 he hf (e0 := 2 * b64.qmin - r) (by omega) (by omega) ?_
  show zmag b64 V * 2 ^ (b64.qmin - (2 * b64.qmin - r)).toNat * e ≤ c * 2 ^ (q - r - (2 * b64.qmin - r)).toNat
  rw [show (q - r - (2 * b64.qmin - r)).toNat = (q - b64.qmin).toNat + (-b64.qmin).toNat by omega, show (b64.qmin - (2 * b64.qmin - r)).toNat = (r - b64.qmin).toNat by omega, Nat.pow_add, ← Nat.mul_assoc c, h3, pow_qmin64, Nat.mul_assoc (zmag b64 V), Nat.mul_comm _ e, k3, ← Nat.mul_assoc (zmag b64 V)]
  exact Nat.mul_le_mul_right _ h
theorem own_v0 : zmag b64 (val64 4517110426252607488) = 2 ^ 1054 := by decide +kernel
theorem own_v1 : zmag b64 (val64 4607182423094984704) = one64 + 2 ^ 1054 := by decide +kernel
theorem own_v2 : zmag b64 (val64 4607182410210082816) + 2 ^ 1054 = one64 := by decide +kernel
theorem own_v3 : zmag b64 (val64 4607182418800017408) = one64 := by decide +kernel
theorem own_vz : zmag b64 (val64 0) = 0 := by decide +kernel
theorem own_o : one64 = 1048576 * 2 ^ 1054 := by decide +kernel
theorem own_one : zval b64 (val64 4607182418800017408) = (one64 : Int) := by decide +kernel
theorem own_one_nn : val64 4607182418800017408 ≠ .nan := by decide +kernel
theorem own_zero_nn : val64 0 ≠ .nan := by decide +kernel
theorem own_mag {a d : Int} {x y : UInt64} (hx : DInt a x) (hy : DInt d y) (h1 : 0 < d) (h2 : d ≤ 1048576) :
    (a = 0 → zmag b64 (val64 (FP.ddiv x y)) = 0) ∧ (a ≠ 0 → 0 < zmag b64 (val64 (FP.ddiv x y))) ∧ (d.natAbs < a.natAbs → one64 < zmag b64 (val64 (FP.ddiv x y))) ∧ (a.natAbs < d.natAbs → zmag b64 (val64 (FP.ddiv x y)) < one64) ∧ (a.natAbs = d.natAbs → zmag b64 (val64 (FP.ddiv x y)) = one64) := by
  have hd : d ≠ 0 := by omega
  have hD : d.natAbs ≤ 1048576 := by omega
  have o := own_o
  have v0 := own_v0
  have v1 := own_v1
  have v2 := own_v2
  have v3 := own_v3
  have hp : 0 < 2 ^ 1054 := Nat.two_pow_pos _
  generalize (2 : Nat) ^ 1054 = u at *
  have hdu : d.natAbs * u ≤ 1048576 * u := Nat.mul_le_mul_right _ hD
  refine ⟨fun h => ?_, fun h => ?_, fun h => ?_, fun h => ?_, fun h => ?_⟩
  · have q := own_div_le (V := val64 0) hx hy hd (val64_fits _) own_zero_nn (by rw [own_vz, h]; simp)
    rw [own_vz] at q
    omega
  · have q := own_div_ge (V := val64 4517110426252607488) hx hy hd (val64_fits _) (by
      rw [v0, Nat.mul_comm]
      have e1 : 1 * one64 ≤ a.natAbs * one64 := Nat.mul_le_mul_right _ (by omega)
      omega)
    omega
  · have q := own_div_ge (V := val64 4607182423094984704) hx hy hd (val64_fits _) (by
      rw [v1, Nat.add_mul, Nat.mul_comm one64, Nat.mul_comm u]
      have e1 : (d.natAbs + 1) * one64 ≤ a.natAbs * one64 := Nat.mul_le_mul_right _ (by omega)
      rw [Nat.add_mul] at e1
      omega)
    omega
  · have q := own_div_le (V := val64 4607182410210082816) hx hy hd (val64_fits _) (by decide +kernel) (by
      have e1 : (a.natAbs + 1) * one64 ≤ d.natAbs * one64 := Nat.mul_le_mul_right _ (by omega)
      have e2 : (zmag b64 (val64 4607182410210082816) + u) * d.natAbs = d.natAbs * one64 := by rw [v2, Nat.mul_comm]
      rw [Nat.add_mul, Nat.mul_comm u] at e2
      rw [Nat.add_mul] at e1
      omega)
    omega
  · have q1 := own_div_le (V := val64 4607182418800017408) hx hy hd (val64_fits _) own_one_nn (by rw [v3, h, Nat.mul_comm]; exact Nat.le_refl _)
    have q2 := own_div_ge (V := val64 4607182418800017408) hx hy hd (val64_fits _) (by rw [v3, h, Nat.mul_comm]; exact Nat.le_refl _)
    omega
theorem own_div_nn {a d : Int} {x y : UInt64} (hx : DInt a x) (hy : DInt d y) (hd : d ≠ 0) : val64 (FP.ddiv x y) ≠ .nan := by
  obtain ⟨s, t, c, e, q, r, he, h1, -⟩ := own_div hx hy hd
  rw [h1]
  exact roundRatio_ne_nan _ _ _ _ _
theorem own_sgn {a d : Int} {x y : UInt64} (hx : DInt a x) (hy : DInt d y) (h1 : 0 < d) (ha : a ≠ 0) : sgn (val64 (FP.ddiv x y)) = decide (a < 0) := by
  obtain ⟨s, t, c, e, q, r, he, h2, -, -, -, -, h3, h4⟩ := own_div hx hy (by omega)
  rw [h2, sgn_roundRatio, h3 ha, h4, decide_eq_false (by omega : ¬ d < 0)]
  cases decide (a < 0) <;> rfl
/-- how the double v stands to the quotient s / d -/
def OwnR (s d : Int) (v : UInt64) : Prop := val64 v ≠ .nan ∧ (s < 0 ↔ zval b64 (val64 v) < 0) ∧ (d < s ↔ (one64 : Int) < zval b64 (val64 v)) ∧ (s < d ↔ zval b64 (val64 v) < (one64 : Int))
theorem own_R {a d : Int} {x y : UInt64} (hx : DInt a x) (hy : DInt d y) (h1 : 0 < d) (h2 : d ≤ 1048576) : OwnR a d (FP.ddiv x y) := by
  obtain ⟨m0, m1, m2, m3, m4⟩ := own_mag hx hy h1 h2
  have hs := own_sgn hx hy h1
  have hz : zval b64 (val64 (FP.ddiv x y)) = signed (sgn (val64 (FP.ddiv x y))) (zmag b64 (val64 (FP.ddiv x y))) := rfl
  have op := one64_pos
  refine ⟨own_div_nn hx hy (by omega), ?_⟩
  rw [hz]
  generalize zmag b64 (val64 (FP.ddiv x y)) = M at *
  generalize sgn (val64 (FP.ddiv x y)) = g at *
  generalize one64 = O at *
  by_cases ha : a = 0
  · have hM := m0 ha
    subst hM
    have e : signed g 0 = 0 := by cases g <;> rfl
    rw [e]
    omega
  · rw [hs ha]
    by_cases hn : a < 0
    · rw [decide_eq_true hn]
      show (a < 0 ↔ -(M : Int) < 0) ∧ (d < a ↔ (O : Int) < -(M : Int)) ∧ (a < d ↔ -(M : Int) < (O : Int))
      omega
    · rw [decide_eq_false hn]
      show (a < 0 ↔ (M : Int) < 0) ∧ (d < a ↔ (O : Int) < (M : Int)) ∧ (a < d ↔ (M : Int) < (O : Int))
      omega
theorem own_Rn {a d : Int} {x y : UInt64} (hx : DInt a x) (hy : DInt d y) (h1 : 0 < d) (h2 : d ≤ 1048576) : OwnR (-a) d (FP.dneg (FP.ddiv x y)) := by
  obtain ⟨m0, m1, m2, m3, m4⟩ := own_mag hx hy h1 h2
  have hs := own_sgn hx hy h1
  have hz : zval b64 (val64 (FP.dneg (FP.ddiv x y))) = -signed (sgn (val64 (FP.ddiv x y))) (zmag b64 (val64 (FP.ddiv x y))) := by
    rw [FP.val64_dneg, zval_negate]; rfl
  have op := one64_pos
  have nn : val64 (FP.dneg (FP.ddiv x y)) ≠ .nan := by rw [FP.val64_dneg]; exact FP.Core.negate_ne_nan (own_div_nn hx hy (by omega))
  refine ⟨nn, ?_⟩
  rw [hz]
  generalize zmag b64 (val64 (FP.ddiv x y)) = M at *
  generalize sgn (val64 (FP.ddiv x y)) = g at *
  generalize one64 = O at *
  by_cases ha : a = 0
  · have hM := m0 ha
    subst hM
    have e : signed g 0 = 0 := by cases g <;> rfl
    rw [e]
    omega
  · rw [hs ha]
    by_cases hn : a < 0
    · rw [decide_eq_true hn]
      show (-a < 0 ↔ -(-(M : Int)) < 0) ∧ (d < -a ↔ (O : Int) < -(-(M : Int))) ∧ (-a < d ↔ -(-(M : Int)) < (O : Int))
      omega
    · rw [decide_eq_false hn]
      show (-a < 0 ↔ -(M : Int) < 0) ∧ (d < -a ↔ (O : Int) < -(M : Int)) ∧ (-a < d ↔ -(M : Int) < (O : Int))
      omega
theorem own_ge0 {s d : Int} {v : UInt64} (h : OwnR s d v) (hs : ¬ s < 0) : ¬ (cmpValue (FP.dcmp v (0 : UInt64)) .l < (0 : Int32)) := by
  obtain ⟨c1, c2, c3⟩ := own_cmp h.1 own_zero_nn .l
  rw [zval64_zero] at c1 c2 c3
  have hz : ¬ zval b64 (val64 v) < 0 := fun q => hs (h.2.1.mpr q)
  by_cases e : zval b64 (val64 v) = 0
  · rw [c2 e]; decide
  · rw [c3 (by omega)]; decide
theorem own_lt0 {s d : Int} {v : UInt64} (h : OwnR s d v) (hs : s < 0) : cmpValue (FP.dcmp v (0 : UInt64)) .l < (0 : Int32) := by
  obtain ⟨c1, c2, c3⟩ := own_cmp h.1 own_zero_nn .l
  rw [zval64_zero] at c1
  rw [c1 (h.2.1.mp hs)]; decide
theorem own_le1 {s d : Int} {v : UInt64} (h : OwnR s d v) (hs : ¬ d < s) : ¬ ((0 : Int32) < cmpValue (FP.dcmp v (4607182418800017408 : UInt64)) .g) := by
  obtain ⟨c1, c2, c3⟩ := own_cmp h.1 own_one_nn .g
  rw [own_one] at c1 c2 c3
  have hz : ¬ (one64 : Int) < zval b64 (val64 v) := fun q => hs (h.2.2.1.mpr q)
  by_cases e : zval b64 (val64 v) = (one64 : Int)
  · rw [c2 e]; decide
  · rw [c1 (by omega)]; decide
theorem own_gt1 {s d : Int} {v : UInt64} (h : OwnR s d v) (hs : d < s) : (0 : Int32) < cmpValue (FP.dcmp v (4607182418800017408 : UInt64)) .g := by
  obtain ⟨c1, c2, c3⟩ := own_cmp h.1 own_one_nn .g
  rw [own_one] at c3
  rw [c3 (h.2.2.1.mp hs)]; decide
theorem own_lt1 {s d : Int} {v : UInt64} (h : OwnR s d v) (hs : s < d) : cmpValue (FP.dcmp v (4607182418800017408 : UInt64)) .g < (0 : Int32) := by
  obtain ⟨c1, c2, c3⟩ := own_cmp h.1 own_one_nn .g
  rw [own_one] at c1
  rw [c1 (h.2.2.2.mp hs)]; decide
theorem own_ge1 {s d : Int} {v : UInt64} (h : OwnR s d v) (hs : ¬ s < d) : ¬ (cmpValue (FP.dcmp v (4607182418800017408 : UInt64)) .g < (0 : Int32)) := by
  obtain ⟨c1, c2, c3⟩ := own_cmp h.1 own_one_nn .g
  rw [own_one] at c1 c2 c3
  have hz : ¬ zval b64 (val64 v) < (one64 : Int) := fun q => hs (h.2.2.2.mpr q)
  by_cases e : zval b64 (val64 v) = (one64 : Int)
  · rw [c2 e]; decide
  · rw [c3 (by omega)]; decide
theorem own_i2d (a : Int32) : DInt a.toInt (FP.i2d a) := FP.Core.i2d_int a
theorem own_div_ok {a d : Int32} (h : 0 < d.toInt) : NoNaN64 (FP.ddiv (FP.i2d a) (FP.i2d d)) := val64_no.mpr (own_div_nn (own_i2d a) (own_i2d d) (by omega))
end OwnDiv

theorem own_rem (x : Int32) : -1048576 < (x % (1048576 : Int32)).toInt ∧ (x % (1048576 : Int32)).toInt < 1048576 := by
  obtain ⟨h1, h2⟩ := c_irem x (1048576 : Int32) 1048576 (by decide)
  by_cases h : 0 ≤ x.toInt
  · rw [h1 h]; omega
  · rw [h2 (by omega)]; omega
theorem own_den (x : Int32) : 1 ≤ ((x &&& (1048575 : Int32)) + (1 : Int32)).toInt ∧ ((x &&& (1048575 : Int32)) + (1 : Int32)).toInt ≤ 1048576 := by
  have h : (x &&& (1048575 : Int32)).toInt = x.toInt % 1048576 := c_mask x (1048575 : Int32) 20 (by decide) (by decide)
  have e := c_iadd (x &&& (1048575 : Int32)) 1
  have r := rng32 ((x &&& (1048575 : Int32)) + (1 : Int32))
  rw [h] at e
  have e' : (((x &&& (1048575 : Int32)) + (1 : Int32)).toInt - (x.toInt % 1048576 + 1)) % 4294967296 = 0 := e
  omega
theorem own_neg {a : Int32} (h : -2000000 < a.toInt ∧ a.toInt < 2000000) : (-a).toInt = -a.toInt := by
  have e := c_ineg a
  have r := rng32 (-a)
  omega
theorem own_z {a : Int32} (h : a < (0 : Int32)) : a.toInt < 0 := Int32.lt_iff_toInt_lt.mp h
theorem own_nz {a : Int32} (h : ¬ (a < (0 : Int32))) : ¬ a.toInt < 0 := fun q => h (Int32.lt_iff_toInt_lt.mpr q)
theorem own_l {a b : Int32} (h : a < b) : a.toInt < b.toInt := Int32.lt_iff_toInt_lt.mp h
theorem own_nl {a b : Int32} (h : ¬ (a < b)) : ¬ a.toInt < b.toInt := fun q => h (Int32.lt_iff_toInt_lt.mpr q)
section OwnBig
open Jvm.FP.Core (zmag zval val64 b64 DInt one64 l2d_zval_ge l2d_zval_le zval64_zero one64_pos)
theorem own_m1 : zval b64 (val64 13830554455654793216) = -(one64 : Int) := by decide +kernel
theorem own_m1_nn : val64 13830554455654793216 ≠ .nan := by decide +kernel
theorem own_l2d_nn (n : Int64) : val64 (FP.l2d n) ≠ .nan := val64_no.mp (l2d_fin n).noNaN
theorem own_big_p {n : Int64} (h : 1 ≤ n.toInt) : ¬ (cmpValue (FP.dcmp (FP.l2d n) (0 : UInt64)) .l < (0 : Int32)) ∧ ¬ (cmpValue (FP.dcmp (FP.l2d n) (4607182418800017408 : UInt64)) .g < (0 : Int32)) := by
  have op := one64_pos
  have hz := l2d_zval_ge (n := n) (V := 4607182418800017408) own_one_nn (by rw [own_one]; have := Int.mul_le_mul_of_nonneg_right h (Int.natCast_nonneg one64); omega)
  rw [own_one] at hz
  have hz' : (one64 : Int) ≤ zval b64 (val64 (FP.l2d n)) := hz
  obtain ⟨c1, c2, c3⟩ := own_cmp (own_l2d_nn n) own_zero_nn .l
  obtain ⟨e1, e2, e3⟩ := own_cmp (own_l2d_nn n) own_one_nn .g
  rw [zval64_zero] at c3
  rw [own_one] at e2 e3
  constructor
  · rw [c3 (by omega)]; decide
  · by_cases e : zval b64 (val64 (FP.l2d n)) = (one64 : Int)
    · rw [e2 e]; decide
    · rw [e3 (by omega)]; decide
theorem own_big_n {n : Int64} (h : n.toInt ≤ -1) : cmpValue (FP.dcmp (FP.l2d n) (0 : UInt64)) .l < (0 : Int32) := by
  have op := one64_pos
  have hz := l2d_zval_le (n := n) (V := 13830554455654793216) own_m1_nn (by rw [own_m1]; have := Int.mul_le_mul_of_nonneg_right h (Int.natCast_nonneg one64); omega)
  rw [own_m1] at hz
  have hz' : zval b64 (val64 (FP.l2d n)) ≤ -(one64 : Int) := hz
  obtain ⟨c1, c2, c3⟩ := own_cmp (own_l2d_nn n) own_zero_nn .l
  rw [zval64_zero] at c1
  rw [c1 (by omega)]; decide
theorem own_big_0 {n : Int64} (h : n = 0) : ¬ (cmpValue (FP.dcmp (FP.l2d n) (0 : UInt64)) .l < (0 : Int32)) ∧ cmpValue (FP.dcmp (FP.l2d n) (4607182418800017408 : UInt64)) .g < (0 : Int32) := by
  subst h
  decide +kernel
end OwnBig
theorem own_lz {n : Int64} (h : (lcmpW n (0 : Int64)) = (0 : Int32)) : n = 0 := (lw_eq _ _).mp h
theorem own_lnz {n : Int64} (h : ¬ ((lcmpW n (0 : Int64)) = (0 : Int32))) : n ≠ 0 := fun q => h ((lw_eq _ _).mpr q)
theorem own_ln {n : Int64} (h : n < (0 : Int64)) : n.toInt ≤ -1 := by
  have q : n.toInt < 0 := Int64.lt_iff_toInt_lt.mp h
  omega
theorem own_lp {n : Int64} (h : ¬ (n < (0 : Int64))) (hz : n ≠ 0) : 1 ≤ n.toInt := by
  have q : ¬ n.toInt < 0 := fun e => h (Int64.lt_iff_toInt_lt.mpr e)
  have r : n.toInt ≠ 0 := fun e => hz (Int64.toInt_inj.mp e)
  omega
theorem pn_0 : plainName "com/example/kereso/kereso/PageRank" = true := by first | (simp [plainName, overriddenIn]; done) | decide +kernel
theorem d1_0 : decode prog_26_method_2_code 0 = .ok (.dload_n 0, 1) := by decide +kernel
theorem d1_1 : decode prog_26_method_2_code 1 = .ok (.dconst 0, 1) := by decide +kernel
theorem d1_2 : decode prog_26_method_2_code 2 = .ok (.dcmp .l, 1) := by decide +kernel
theorem d1_3 : decode prog_26_method_2_code 3 = .ok (.ifCond .lt 13, 3) := by decide +kernel
theorem d1_6 : decode prog_26_method_2_code 6 = .ok (.dload_n 0, 1) := by decide +kernel
theorem d1_7 : decode prog_26_method_2_code 7 = .ok (.dconst 1, 1) := by decide +kernel
theorem d1_8 : decode prog_26_method_2_code 8 = .ok (.dcmp .g, 1) := by decide +kernel
theorem d1_9 : decode prog_26_method_2_code 9 = .ok (.ifCond .ge 7, 3) := by decide +kernel
theorem d1_12 : decode prog_26_method_2_code 12 = .ok (.iconst 1, 1) := by decide +kernel
theorem d1_13 : decode prog_26_method_2_code 13 = .ok (.goto 4, 3) := by decide +kernel
theorem d1_17 : decode prog_26_method_2_code 17 = .ok (.ireturn, 1) := by decide +kernel
theorem ef_dm1 (m : MethodId) (x0 : UInt64) : entryFrame m #[(.double x0)] 2 = mkF m 0 #[.val (.double x0), .second] [] := by first | (simp [entryFrame, mkF, argsToLocals, Value.category]; done) | rfl | (simp [entryFrame, mkF, argsToLocals, *]; done)
def Q_dm1 (Z : State) (wv : UInt64) (h0 : Heap) (n0 : Nat) (v : Option Value) (h : Heap) (L : List Loc) : Prop := v = some (.int (1 : Int32)) ∧ Fr n0 L ∧ h = h0
set_option maxRecDepth 65536 in
set_option maxHeartbeats 40000000 in
theorem dm1 (l : Launch) (Z : State) (a0 : Array Value) (hw : ∀ d ∈ tables_1, d.before a0 Z = true) (ws : List Jvm.Cond) (wv : UInt64) (h0 : Heap) (n0 : Nat) (Z0 : n0 ≤ h0.size) (hA : ¬ (cmpValue (FP.dcmp wv (0 : UInt64)) .l < (0 : Int32))) (hB : cmpValue (FP.dcmp wv (4607182418800017408 : UInt64)) .g < (0 : Int32)) :
    MetFree l (⟨"com/example/kereso/kereso/PageRank", "isDamping", "(D)Z"⟩ : MethodName) (head1 (Jvm.Cond.code (⟨"com/example/kereso/kereso/PageRank", "isDamping", "(D)Z"⟩ : MethodName) prog_26_method_2_code 2 (some .boolean) :: ws) ({ frames := 0, cells := 0, slots := 0, locals := 0 } : Room)) (fun a U => a = #[(.double wv)] ∧ Z.Warmed39 U.vm ∧ U.heap = h0) (fun _ _ _ _ _ => True) (fun _ U o U' => ∃ v L, o = .returned v ∧ Q_dm1 Z wv h0 n0 v U'.heap L ∧ FrameEnd U o U' L ({ frames := 0, cells := 0, slots := 0, locals := 0 } : Room).cells ({ frames := 0, cells := 0, slots := 0, locals := 0 } : Room).slots) := by
  refine MetFree.of_bodySF (plainFor_of_name pn_0) hisR ?_
  intro p e s m args below meth c s₁ Bd hml0 hP hK
  obtain ⟨rfl, hZ, hh⟩ := hP
  have hx := Bd.exec
  have hby := Bd.bytes
  have hml : c.maxLocals = 2 := hml0
  have hown : s.vm.findClass "com/example/kereso/kereso/PageRank" = some m.cls := findClass_of_methodNamed Bd.named
  have hnm := (name_of_methodNamed Bd.named Bd.method).1
  have X0 : Stand p l e ({ frames := 0, cells := 0, slots := 0, locals := 0 } : Room) s m #[(.double wv)] below meth c s₁ [] 0 0 := Stand.of_body Bd
  have e0 : s₁.heap = h0 := by rw [← hh, Bd.state]; rfl
  have N0 := Fr.nil n0
  obtain ⟨G, hG⟩ : ∃ G : State → Prop, G = (fun U' => ∃ o, U'.status = .running ∧ Ended U' below o ∧ ∃ v L, o = .returned v ∧ Q_dm1 Z wv h0 n0 v U'.heap L ∧ FrameEnd s o U' L ({ frames := 0, cells := 0, slots := 0, locals := 0 } : Room).cells ({ frames := 0, cells := 0, slots := 0, locals := 0 } : Room).slots) := ⟨_, rfl⟩
  suffices key : Gl p.tables e below s₁ (mkF m 0 #[.val (.double wv), .second] []) G by
    obtain ⟨s₂, k1, k2⟩ := key
    rw [hG] at k2
    obtain ⟨o, k3, k4, k5⟩ := k2
    exact ⟨s₂, o, castTop (ef_dm1 m wv) k1, k3, k4, k5⟩
  show Gl p.tables e below s₁ (mkF m 0 #[.val (.double wv), .second] []) G
  refine Gl.via (fun _ k => XS.dloadN X0.here hx rfl (hb hby d1_0) rfl k) ?_
  show Gl p.tables e below s₁ (mkF m 1 #[.val (.double wv), .second] [(.double wv)]) G
  refine Gl.via (fun _ k => XS.dconst0 X0.here hx rfl (hb hby d1_1) rfl k) ?_
  show Gl p.tables e below s₁ (mkF m 2 #[.val (.double wv), .second] [(.double (0 : UInt64)), (.double wv)]) G
  refine Gl.via (fun _ k => XS.dcmpS X0.here hx rfl (v := (cmpValue (FP.dcmp wv (0 : UInt64)) .l)) (hb hby d1_2) rfl rfl k) ?_
  show Gl p.tables e below s₁ (mkF m 3 #[.val (.double wv), .second] [(.int (cmpValue (FP.dcmp wv (0 : UInt64)) .l))]) G
  refine Gl.via (fun _ k => XS.ifNo X0.here hx rfl (hb hby d1_3) rfl ((if0 _ _).trans (flt hA).1) k) ?_
  show Gl p.tables e below s₁ (mkF m 6 #[.val (.double wv), .second] []) G
  refine Gl.via (fun _ k => XS.dloadN X0.here hx rfl (hb hby d1_6) rfl k) ?_
  show Gl p.tables e below s₁ (mkF m 7 #[.val (.double wv), .second] [(.double wv)]) G
  refine Gl.via (fun _ k => XS.dconst1 X0.here hx rfl (hb hby d1_7) rfl k) ?_
  show Gl p.tables e below s₁ (mkF m 8 #[.val (.double wv), .second] [(.double (4607182418800017408 : UInt64)), (.double wv)]) G
  refine Gl.via (fun _ k => XS.dcmpS X0.here hx rfl (v := (cmpValue (FP.dcmp wv (4607182418800017408 : UInt64)) .g)) (hb hby d1_8) rfl rfl k) ?_
  show Gl p.tables e below s₁ (mkF m 9 #[.val (.double wv), .second] [(.int (cmpValue (FP.dcmp wv (4607182418800017408 : UInt64)) .g))]) G
  refine Gl.via (fun _ k => XS.ifNo X0.here hx rfl (hb hby d1_9) rfl ((if0 _ _).trans (tlt hB).2.1) k) ?_
  show Gl p.tables e below s₁ (mkF m 12 #[.val (.double wv), .second] []) G
  refine Gl.via (fun _ k => XS.iconst X0.here hx rfl (hb hby d1_12) k) ?_
  show Gl p.tables e below s₁ (mkF m 13 #[.val (.double wv), .second] [(.int (1 : Int32))]) G
  refine Gl.via (fun _ k => XS.goto X0.here hx rfl (pc0 := 13) (pc' := 17) rfl (hb hby d1_13) (by decide) (by decide) k) ?_
  show Gl p.tables e below s₁ (mkF m 17 #[.val (.double wv), .second] [(.int (1 : Int32))]) G
  obtain ⟨fs, hr, hrun, hended, hW, hsame⟩ := X0.leave (v := some (.int (1 : Int32))) (fun h => by rw [Bd.returns] at h; cases h)
  have hq : ∀ L, Fr n0 L → Q_dm1 Z wv h0 n0 (some (.int (1 : Int32))) s₁.heap L := by
    intro L hN
    rw [e0]
    exact ⟨rfl, hN, rfl⟩
  rw [hG]
  exact Gl.fin (retN X0 hx (t := .boolean) Bd.returns (by simp) (hb hby d1_17) hr) ⟨_, hrun, hended, _, _, rfl, hq _ N0, ⟨_, rfl⟩, hW, hsame.mono (by decide) (by decide)⟩
theorem d1_16 : decode prog_26_method_2_code 16 = .ok (.iconst 0, 1) := by decide +kernel
theorem ef_dm0a (m : MethodId) (x0 : UInt64) : entryFrame m #[(.double x0)] 2 = mkF m 0 #[.val (.double x0), .second] [] := by first | (simp [entryFrame, mkF, argsToLocals, Value.category]; done) | rfl | (simp [entryFrame, mkF, argsToLocals, *]; done)
def Q_dm0a (Z : State) (wv : UInt64) (h0 : Heap) (n0 : Nat) (v : Option Value) (h : Heap) (L : List Loc) : Prop := v = some (.int (0 : Int32)) ∧ Fr n0 L ∧ h = h0
set_option maxRecDepth 65536 in
set_option maxHeartbeats 40000000 in
theorem dm0a (l : Launch) (Z : State) (a0 : Array Value) (hw : ∀ d ∈ tables_1, d.before a0 Z = true) (ws : List Jvm.Cond) (wv : UInt64) (h0 : Heap) (n0 : Nat) (Z0 : n0 ≤ h0.size) (hA : cmpValue (FP.dcmp wv (0 : UInt64)) .l < (0 : Int32)) :
    MetFree l (⟨"com/example/kereso/kereso/PageRank", "isDamping", "(D)Z"⟩ : MethodName) (head1 (Jvm.Cond.code (⟨"com/example/kereso/kereso/PageRank", "isDamping", "(D)Z"⟩ : MethodName) prog_26_method_2_code 2 (some .boolean) :: ws) ({ frames := 0, cells := 0, slots := 0, locals := 0 } : Room)) (fun a U => a = #[(.double wv)] ∧ Z.Warmed39 U.vm ∧ U.heap = h0) (fun _ _ _ _ _ => True) (fun _ U o U' => ∃ v L, o = .returned v ∧ Q_dm0a Z wv h0 n0 v U'.heap L ∧ FrameEnd U o U' L ({ frames := 0, cells := 0, slots := 0, locals := 0 } : Room).cells ({ frames := 0, cells := 0, slots := 0, locals := 0 } : Room).slots) := by
  refine MetFree.of_bodySF (plainFor_of_name pn_0) hisR ?_
  intro p e s m args below meth c s₁ Bd hml0 hP hK
  obtain ⟨rfl, hZ, hh⟩ := hP
  have hx := Bd.exec
  have hby := Bd.bytes
  have hml : c.maxLocals = 2 := hml0
  have hown : s.vm.findClass "com/example/kereso/kereso/PageRank" = some m.cls := findClass_of_methodNamed Bd.named
  have hnm := (name_of_methodNamed Bd.named Bd.method).1
  have X0 : Stand p l e ({ frames := 0, cells := 0, slots := 0, locals := 0 } : Room) s m #[(.double wv)] below meth c s₁ [] 0 0 := Stand.of_body Bd
  have e0 : s₁.heap = h0 := by rw [← hh, Bd.state]; rfl
  have N0 := Fr.nil n0
  obtain ⟨G, hG⟩ : ∃ G : State → Prop, G = (fun U' => ∃ o, U'.status = .running ∧ Ended U' below o ∧ ∃ v L, o = .returned v ∧ Q_dm0a Z wv h0 n0 v U'.heap L ∧ FrameEnd s o U' L ({ frames := 0, cells := 0, slots := 0, locals := 0 } : Room).cells ({ frames := 0, cells := 0, slots := 0, locals := 0 } : Room).slots) := ⟨_, rfl⟩
  suffices key : Gl p.tables e below s₁ (mkF m 0 #[.val (.double wv), .second] []) G by
    obtain ⟨s₂, k1, k2⟩ := key
    rw [hG] at k2
    obtain ⟨o, k3, k4, k5⟩ := k2
    exact ⟨s₂, o, castTop (ef_dm0a m wv) k1, k3, k4, k5⟩
  show Gl p.tables e below s₁ (mkF m 0 #[.val (.double wv), .second] []) G
  refine Gl.via (fun _ k => XS.dloadN X0.here hx rfl (hb hby d1_0) rfl k) ?_
  show Gl p.tables e below s₁ (mkF m 1 #[.val (.double wv), .second] [(.double wv)]) G
  refine Gl.via (fun _ k => XS.dconst0 X0.here hx rfl (hb hby d1_1) rfl k) ?_
  show Gl p.tables e below s₁ (mkF m 2 #[.val (.double wv), .second] [(.double (0 : UInt64)), (.double wv)]) G
  refine Gl.via (fun _ k => XS.dcmpS X0.here hx rfl (v := (cmpValue (FP.dcmp wv (0 : UInt64)) .l)) (hb hby d1_2) rfl rfl k) ?_
  show Gl p.tables e below s₁ (mkF m 3 #[.val (.double wv), .second] [(.int (cmpValue (FP.dcmp wv (0 : UInt64)) .l))]) G
  refine Gl.via (fun _ k => XS.ifYes X0.here hx rfl (pc0 := 3) (pc' := 16) rfl (hb hby d1_3) rfl ((if0 _ _).trans (tlt hA).1) (by decide) (by decide) k) ?_
  show Gl p.tables e below s₁ (mkF m 16 #[.val (.double wv), .second] []) G
  refine Gl.via (fun _ k => XS.iconst X0.here hx rfl (hb hby d1_16) k) ?_
  show Gl p.tables e below s₁ (mkF m 17 #[.val (.double wv), .second] [(.int (0 : Int32))]) G
  obtain ⟨fs, hr, hrun, hended, hW, hsame⟩ := X0.leave (v := some (.int (0 : Int32))) (fun h => by rw [Bd.returns] at h; cases h)
  have hq : ∀ L, Fr n0 L → Q_dm0a Z wv h0 n0 (some (.int (0 : Int32))) s₁.heap L := by
    intro L hN
    rw [e0]
    exact ⟨rfl, hN, rfl⟩
  rw [hG]
  exact Gl.fin (retN X0 hx (t := .boolean) Bd.returns (by simp) (hb hby d1_17) hr) ⟨_, hrun, hended, _, _, rfl, hq _ N0, ⟨_, rfl⟩, hW, hsame.mono (by decide) (by decide)⟩
theorem ef_dm0b (m : MethodId) (x0 : UInt64) : entryFrame m #[(.double x0)] 2 = mkF m 0 #[.val (.double x0), .second] [] := by first | (simp [entryFrame, mkF, argsToLocals, Value.category]; done) | rfl | (simp [entryFrame, mkF, argsToLocals, *]; done)
def Q_dm0b (Z : State) (wv : UInt64) (h0 : Heap) (n0 : Nat) (v : Option Value) (h : Heap) (L : List Loc) : Prop := v = some (.int (0 : Int32)) ∧ Fr n0 L ∧ h = h0
set_option maxRecDepth 65536 in
set_option maxHeartbeats 40000000 in
theorem dm0b (l : Launch) (Z : State) (a0 : Array Value) (hw : ∀ d ∈ tables_1, d.before a0 Z = true) (ws : List Jvm.Cond) (wv : UInt64) (h0 : Heap) (n0 : Nat) (Z0 : n0 ≤ h0.size) (hA : ¬ (cmpValue (FP.dcmp wv (0 : UInt64)) .l < (0 : Int32))) (hB : ¬ (cmpValue (FP.dcmp wv (4607182418800017408 : UInt64)) .g < (0 : Int32))) :
    MetFree l (⟨"com/example/kereso/kereso/PageRank", "isDamping", "(D)Z"⟩ : MethodName) (head1 (Jvm.Cond.code (⟨"com/example/kereso/kereso/PageRank", "isDamping", "(D)Z"⟩ : MethodName) prog_26_method_2_code 2 (some .boolean) :: ws) ({ frames := 0, cells := 0, slots := 0, locals := 0 } : Room)) (fun a U => a = #[(.double wv)] ∧ Z.Warmed39 U.vm ∧ U.heap = h0) (fun _ _ _ _ _ => True) (fun _ U o U' => ∃ v L, o = .returned v ∧ Q_dm0b Z wv h0 n0 v U'.heap L ∧ FrameEnd U o U' L ({ frames := 0, cells := 0, slots := 0, locals := 0 } : Room).cells ({ frames := 0, cells := 0, slots := 0, locals := 0 } : Room).slots) := by
  refine MetFree.of_bodySF (plainFor_of_name pn_0) hisR ?_
  intro p e s m args below meth c s₁ Bd hml0 hP hK
  obtain ⟨rfl, hZ, hh⟩ := hP
  have hx := Bd.exec
  have hby := Bd.bytes
  have hml : c.maxLocals = 2 := hml0
  have hown : s.vm.findClass "com/example/kereso/kereso/PageRank" = some m.cls := findClass_of_methodNamed Bd.named
  have hnm := (name_of_methodNamed Bd.named Bd.method).1
  have X0 : Stand p l e ({ frames := 0, cells := 0, slots := 0, locals := 0 } : Room) s m #[(.double wv)] below meth c s₁ [] 0 0 := Stand.of_body Bd
  have e0 : s₁.heap = h0 := by rw [← hh, Bd.state]; rfl
  have N0 := Fr.nil n0
  obtain ⟨G, hG⟩ : ∃ G : State → Prop, G = (fun U' => ∃ o, U'.status = .running ∧ Ended U' below o ∧ ∃ v L, o = .returned v ∧ Q_dm0b Z wv h0 n0 v U'.heap L ∧ FrameEnd s o U' L ({ frames := 0, cells := 0, slots := 0, locals := 0 } : Room).cells ({ frames := 0, cells := 0, slots := 0, locals := 0 } : Room).slots) := ⟨_, rfl⟩
  suffices key : Gl p.tables e below s₁ (mkF m 0 #[.val (.double wv), .second] []) G by
    obtain ⟨s₂, k1, k2⟩ := key
    rw [hG] at k2
    obtain ⟨o, k3, k4, k5⟩ := k2
    exact ⟨s₂, o, castTop (ef_dm0b m wv) k1, k3, k4, k5⟩
  show Gl p.tables e below s₁ (mkF m 0 #[.val (.double wv), .second] []) G
  refine Gl.via (fun _ k => XS.dloadN X0.here hx rfl (hb hby d1_0) rfl k) ?_
  show Gl p.tables e below s₁ (mkF m 1 #[.val (.double wv), .second] [(.double wv)]) G
  refine Gl.via (fun _ k => XS.dconst0 X0.here hx rfl (hb hby d1_1) rfl k) ?_
  show Gl p.tables e below s₁ (mkF m 2 #[.val (.double wv), .second] [(.double (0 : UInt64)), (.double wv)]) G
  refine Gl.via (fun _ k => XS.dcmpS X0.here hx rfl (v := (cmpValue (FP.dcmp wv (0 : UInt64)) .l)) (hb hby d1_2) rfl rfl k) ?_
  show Gl p.tables e below s₁ (mkF m 3 #[.val (.double wv), .second] [(.int (cmpValue (FP.dcmp wv (0 : UInt64)) .l))]) G
  refine Gl.via (fun _ k => XS.ifNo X0.here hx rfl (hb hby d1_3) rfl ((if0 _ _).trans (flt hA).1) k) ?_
  show Gl p.tables e below s₁ (mkF m 6 #[.val (.double wv), .second] []) G
  refine Gl.via (fun _ k => XS.dloadN X0.here hx rfl (hb hby d1_6) rfl k) ?_
  show Gl p.tables e below s₁ (mkF m 7 #[.val (.double wv), .second] [(.double wv)]) G
  refine Gl.via (fun _ k => XS.dconst1 X0.here hx rfl (hb hby d1_7) rfl k) ?_
  show Gl p.tables e below s₁ (mkF m 8 #[.val (.double wv), .second] [(.double (4607182418800017408 : UInt64)), (.double wv)]) G
  refine Gl.via (fun _ k => XS.dcmpS X0.here hx rfl (v := (cmpValue (FP.dcmp wv (4607182418800017408 : UInt64)) .g)) (hb hby d1_8) rfl rfl k) ?_
  show Gl p.tables e below s₁ (mkF m 9 #[.val (.double wv), .second] [(.int (cmpValue (FP.dcmp wv (4607182418800017408 : UInt64)) .g))]) G
  refine Gl.via (fun _ k => XS.ifYes X0.here hx rfl (pc0 := 9) (pc' := 16) rfl (hb hby d1_9) rfl ((if0 _ _).trans (flt hB).2.1) (by decide) (by decide) k) ?_
  show Gl p.tables e below s₁ (mkF m 16 #[.val (.double wv), .second] []) G
  refine Gl.via (fun _ k => XS.iconst X0.here hx rfl (hb hby d1_16) k) ?_
  show Gl p.tables e below s₁ (mkF m 17 #[.val (.double wv), .second] [(.int (0 : Int32))]) G
  obtain ⟨fs, hr, hrun, hended, hW, hsame⟩ := X0.leave (v := some (.int (0 : Int32))) (fun h => by rw [Bd.returns] at h; cases h)
  have hq : ∀ L, Fr n0 L → Q_dm0b Z wv h0 n0 (some (.int (0 : Int32))) s₁.heap L := by
    intro L hN
    rw [e0]
    exact ⟨rfl, hN, rfl⟩
  rw [hG]
  exact Gl.fin (retN X0 hx (t := .boolean) Bd.returns (by simp) (hb hby d1_17) hr) ⟨_, hrun, hended, _, _, rfl, hq _ N0, ⟨_, rfl⟩, hW, hsame.mono (by decide) (by decide)⟩
theorem pn_1 : plainName "com/example/kereso/kereso/PageRankIsDampingPinLaw" = true := by first | (simp [plainName, overriddenIn]; done) | decide +kernel
theorem pd_0 : parseMethodDescriptor "(D)Z" = some ⟨[.double], some .boolean⟩ := by decide +kernel
theorem ef_rm0 (m : MethodId) (x0 : Int32) (x1 : Int32) (x2 : Int32) (x3 : Int64) : entryFrame m #[(.int x0), (.int x1), (.int x2), (.long x3)] maxLocals = mkF m 0 #[.val (.int x0), .val (.int x1), .val (.int x2), .val (.long x3), .second, .unset, .unset, .unset, .unset, .unset, .unset, .unset, .unset, .unset, .unset] [] := by first | (simp [entryFrame, mkF, argsToLocals, Value.category, maxLocals]; done) | rfl | (simp [entryFrame, mkF, argsToLocals, *]; done)
def Q_rm0 (Z : State) (p0 : Int32) (p1 : Int32) (p2 : Int32) (p3 : Int64) (h0 : Heap) (n0 : Nat) (v : Option Value) (h : Heap) (L : List Loc) : Prop := v = some (.int (1 : Int32)) ∧ Fr n0 L
set_option maxRecDepth 65536 in
set_option maxHeartbeats 40000000 in
theorem rm0 (l : Launch) (Z : State) (a0 : Array Value) (hw : ∀ d ∈ tables_1, d.before a0 Z = true) (ws : List Jvm.Cond) (p0 : Int32) (p1 : Int32) (p2 : Int32) (p3 : Int64) (h0 : Heap) (n0 : Nat) (Z0 : n0 ≤ h0.size) :
    MetFree l x (head1 (Jvm.Cond.code x code maxLocals ret :: ws) room_1) (fun a U => a = #[(.int p0), (.int p1), (.int p2), (.long p3)] ∧ Z.Warmed39 U.vm ∧ U.heap = h0) (fun _ _ _ _ _ => True) (fun _ U o U' => ∃ v L, o = .returned v ∧ Q_rm0 Z p0 p1 p2 p3 h0 n0 v U'.heap L ∧ FrameEnd U o U' L 0 0) := by
  refine MetFree.of_bodySF (plainFor_of_name pn_1) hisR ?_
  intro p e s m args below meth c s₁ Bd hml0 hP hK
  obtain ⟨rfl, hZ, hh⟩ := hP
  have hx := Bd.exec
  have hby := Bd.bytes
  have hml : c.maxLocals = 15 := hml0
  have hown : s.vm.findClass "com/example/kereso/kereso/PageRankIsDampingPinLaw" = some m.cls := findClass_of_methodNamed Bd.named
  have hnm := (name_of_methodNamed Bd.named Bd.method).1
  have X0 : Stand p l e room_1 s m #[(.int p0), (.int p1), (.int p2), (.long p3)] below meth c s₁ [] 0 0 := Stand.of_body Bd
  have e0 : s₁.heap = h0 := by rw [← hh, Bd.state]; rfl
  have N0 := Fr.nil n0
  obtain ⟨G, hG⟩ : ∃ G : State → Prop, G = (fun U' => ∃ o, U'.status = .running ∧ Ended U' below o ∧ ∃ v L, o = .returned v ∧ Q_rm0 Z p0 p1 p2 p3 h0 n0 v U'.heap L ∧ FrameEnd s o U' L 0 0) := ⟨_, rfl⟩
  suffices key : Gl p.tables e below s₁ (mkF m 0 #[.val (.int p0), .val (.int p1), .val (.int p2), .val (.long p3), .second, .unset, .unset, .unset, .unset, .unset, .unset, .unset, .unset, .unset, .unset] []) G by
    obtain ⟨s₂, k1, k2⟩ := key
    rw [hG] at k2
    obtain ⟨o, k3, k4, k5⟩ := k2
    exact ⟨s₂, o, castTop (ef_rm0 m p0 p1 p2 p3) k1, k3, k4, k5⟩
  show Gl p.tables e below s₁ (mkF m 0 #[.val (.int p0), .val (.int p1), .val (.int p2), .val (.long p3), .second, .unset, .unset, .unset, .unset, .unset, .unset, .unset, .unset, .unset, .unset] []) G
  have ha := own_rem p0
  have hd := own_den p1
  refine Gl.via (fun _ k => XS.iloadN X0.here hx rfl (hb hby at_0) rfl k) ?_
  show Gl p.tables e below s₁ (mkF m 1 #[.val (.int p0), .val (.int p1), .val (.int p2), .val (.long p3), .second, .unset, .unset, .unset, .unset, .unset, .unset, .unset, .unset, .unset, .unset] [(.int p2)]) G
  refine Gl.via (fun _ k => XS.iconst X0.here hx rfl (hb hby at_1) k) ?_
  show Gl p.tables e below s₁ (mkF m 2 #[.val (.int p0), .val (.int p1), .val (.int p2), .val (.long p3), .second, .unset, .unset, .unset, .unset, .unset, .unset, .unset, .unset, .unset, .unset] [(.int (1 : Int32)), (.int p2)]) G
  refine Gl.via (fun _ k => XS.iand X0.here hx rfl (hb hby at_2) rfl k) ?_
  show Gl p.tables e below s₁ (mkF m 3 #[.val (.int p0), .val (.int p1), .val (.int p2), .val (.long p3), .second, .unset, .unset, .unset, .unset, .unset, .unset, .unset, .unset, .unset, .unset] [(.int (p2 &&& (1 : Int32)))]) G
  by_cases nf : (p2 &&& (1 : Int32)) = (0 : Int32)
  · refine Gl.via (fun _ k => XS.ifYes X0.here hx rfl (pc0 := 3) (pc' := 10) rfl (hb hby at_3) rfl ((if0 _ _).trans (teq nf).1) (by decide) (by decide) k) ?_
    show Gl p.tables e below s₁ (mkF m 10 #[.val (.int p0), .val (.int p1), .val (.int p2), .val (.long p3), .second, .unset, .unset, .unset, .unset, .unset, .unset, .unset, .unset, .unset, .unset] []) G
    refine Gl.via (fun _ k => XS.iconst X0.here hx rfl (hb hby at_10) k) ?_
    show Gl p.tables e below s₁ (mkF m 11 #[.val (.int p0), .val (.int p1), .val (.int p2), .val (.long p3), .second, .unset, .unset, .unset, .unset, .unset, .unset, .unset, .unset, .unset, .unset] [(.int (0 : Int32))]) G
    refine Gl.via (fun _ k => XS.istore X0.here hx rfl (hb hby at_11) rfl (l' := #[.val (.int p0), .val (.int p1), .val (.int p2), .val (.long p3), .second, .val (.int (0 : Int32)), .unset, .unset, .unset, .unset, .unset, .unset, .unset, .unset, .unset]) rfl k) ?_
    show Gl p.tables e below s₁ (mkF m 13 #[.val (.int p0), .val (.int p1), .val (.int p2), .val (.long p3), .second, .val (.int (0 : Int32)), .unset, .unset, .unset, .unset, .unset, .unset, .unset, .unset, .unset] []) G
    refine Gl.via (fun _ k => XS.iloadN X0.here hx rfl (hb hby at_13) rfl k) ?_
    show Gl p.tables e below s₁ (mkF m 14 #[.val (.int p0), .val (.int p1), .val (.int p2), .val (.long p3), .second, .val (.int (0 : Int32)), .unset, .unset, .unset, .unset, .unset, .unset, .unset, .unset, .unset] [(.int p2)]) G
    refine Gl.via (fun _ k => XS.iconst X0.here hx rfl (hb hby at_14) k) ?_
    show Gl p.tables e below s₁ (mkF m 15 #[.val (.int p0), .val (.int p1), .val (.int p2), .val (.long p3), .second, .val (.int (0 : Int32)), .unset, .unset, .unset, .unset, .unset, .unset, .unset, .unset, .unset] [(.int (2 : Int32)), (.int p2)]) G
    refine Gl.via (fun _ k => XS.iand X0.here hx rfl (hb hby at_15) rfl k) ?_
    show Gl p.tables e below s₁ (mkF m 16 #[.val (.int p0), .val (.int p1), .val (.int p2), .val (.long p3), .second, .val (.int (0 : Int32)), .unset, .unset, .unset, .unset, .unset, .unset, .unset, .unset, .unset] [(.int (p2 &&& (2 : Int32)))]) G
    by_cases wf : (p2 &&& (2 : Int32)) = (0 : Int32)
    · refine Gl.via (fun _ k => XS.ifYes X0.here hx rfl (pc0 := 16) (pc' := 23) rfl (hb hby at_16) rfl ((if0 _ _).trans (teq wf).1) (by decide) (by decide) k) ?_
      show Gl p.tables e below s₁ (mkF m 23 #[.val (.int p0), .val (.int p1), .val (.int p2), .val (.long p3), .second, .val (.int (0 : Int32)), .unset, .unset, .unset, .unset, .unset, .unset, .unset, .unset, .unset] []) G
      refine Gl.via (fun _ k => XS.iconst X0.here hx rfl (hb hby at_23) k) ?_
      show Gl p.tables e below s₁ (mkF m 24 #[.val (.int p0), .val (.int p1), .val (.int p2), .val (.long p3), .second, .val (.int (0 : Int32)), .unset, .unset, .unset, .unset, .unset, .unset, .unset, .unset, .unset] [(.int (0 : Int32))]) G
      refine Gl.via (fun _ k => XS.istore X0.here hx rfl (hb hby at_24) rfl (l' := #[.val (.int p0), .val (.int p1), .val (.int p2), .val (.long p3), .second, .val (.int (0 : Int32)), .val (.int (0 : Int32)), .unset, .unset, .unset, .unset, .unset, .unset, .unset, .unset]) rfl k) ?_
      show Gl p.tables e below s₁ (mkF m 26 #[.val (.int p0), .val (.int p1), .val (.int p2), .val (.long p3), .second, .val (.int (0 : Int32)), .val (.int (0 : Int32)), .unset, .unset, .unset, .unset, .unset, .unset, .unset, .unset] []) G
      refine Gl.via (fun _ k => XS.iload X0.here hx rfl (hb hby at_26) rfl k) ?_
      show Gl p.tables e below s₁ (mkF m 28 #[.val (.int p0), .val (.int p1), .val (.int p2), .val (.long p3), .second, .val (.int (0 : Int32)), .val (.int (0 : Int32)), .unset, .unset, .unset, .unset, .unset, .unset, .unset, .unset] [(.int (0 : Int32))]) G
      refine Gl.via (fun _ k => XS.ifYes X0.here hx rfl (pc0 := 28) (pc' := 64) rfl (hb hby at_28) rfl ((if0 _ _).trans (teq (by decide)).1) (by decide) (by decide) k) ?_
      show Gl p.tables e below s₁ (mkF m 64 #[.val (.int p0), .val (.int p1), .val (.int p2), .val (.long p3), .second, .val (.int (0 : Int32)), .val (.int (0 : Int32)), .unset, .unset, .unset, .unset, .unset, .unset, .unset, .unset] []) G
      refine Gl.via (fun _ k => XS.iloadN X0.here hx rfl (hb hby at_64) rfl k) ?_
      show Gl p.tables e below s₁ (mkF m 65 #[.val (.int p0), .val (.int p1), .val (.int p2), .val (.long p3), .second, .val (.int (0 : Int32)), .val (.int (0 : Int32)), .unset, .unset, .unset, .unset, .unset, .unset, .unset, .unset] [(.int p0)]) G
      refine Gl.via (fun _ k => X0.ldcInt hx hown (mvT hZ (hw _ (List.mem_of_getElem? (i := 4) rfl))) (g := (mkF m 65 #[.val (.int p0), .val (.int p1), .val (.int p2), .val (.long p3), .second, .val (.int (0 : Int32)), .val (.int (0 : Int32)), .unset, .unset, .unset, .unset, .unset, .unset, .unset, .unset] [(.int p0)])) rfl (hb hby at_65) _ k) ?_
      show Gl p.tables e below s₁ (mkF m 67 #[.val (.int p0), .val (.int p1), .val (.int p2), .val (.long p3), .second, .val (.int (0 : Int32)), .val (.int (0 : Int32)), .unset, .unset, .unset, .unset, .unset, .unset, .unset, .unset] [(.int (1048576 : Int32)), (.int p0)]) G
      refine Gl.via (fun _ k => XS.irem X0.here hx rfl (hb hby at_67) rfl (by decide) k) ?_
      show Gl p.tables e below s₁ (mkF m 68 #[.val (.int p0), .val (.int p1), .val (.int p2), .val (.long p3), .second, .val (.int (0 : Int32)), .val (.int (0 : Int32)), .unset, .unset, .unset, .unset, .unset, .unset, .unset, .unset] [(.int (p0 - (p0 / (1048576 : Int32)) * (1048576 : Int32)))]) G
      rw [show (p0 - (p0 / (1048576 : Int32)) * (1048576 : Int32)) = (p0 % (1048576 : Int32)) from (irem_eq_mod _ _)]
      show Gl p.tables e below s₁ (mkF m 68 #[.val (.int p0), .val (.int p1), .val (.int p2), .val (.long p3), .second, .val (.int (0 : Int32)), .val (.int (0 : Int32)), .unset, .unset, .unset, .unset, .unset, .unset, .unset, .unset] [(.int (p0 % (1048576 : Int32)))]) G
      refine Gl.via (fun _ k => XS.istore X0.here hx rfl (hb hby at_68) rfl (l' := #[.val (.int p0), .val (.int p1), .val (.int p2), .val (.long p3), .second, .val (.int (0 : Int32)), .val (.int (0 : Int32)), .val (.int (p0 % (1048576 : Int32))), .unset, .unset, .unset, .unset, .unset, .unset, .unset]) rfl k) ?_
      show Gl p.tables e below s₁ (mkF m 70 #[.val (.int p0), .val (.int p1), .val (.int p2), .val (.long p3), .second, .val (.int (0 : Int32)), .val (.int (0 : Int32)), .val (.int (p0 % (1048576 : Int32))), .unset, .unset, .unset, .unset, .unset, .unset, .unset] []) G
      refine Gl.via (fun _ k => XS.iloadN X0.here hx rfl (hb hby at_70) rfl k) ?_
      show Gl p.tables e below s₁ (mkF m 71 #[.val (.int p0), .val (.int p1), .val (.int p2), .val (.long p3), .second, .val (.int (0 : Int32)), .val (.int (0 : Int32)), .val (.int (p0 % (1048576 : Int32))), .unset, .unset, .unset, .unset, .unset, .unset, .unset] [(.int p1)]) G
      refine Gl.via (fun _ k => X0.ldcInt hx hown (mvT hZ (hw _ (List.mem_of_getElem? (i := 5) rfl))) (g := (mkF m 71 #[.val (.int p0), .val (.int p1), .val (.int p2), .val (.long p3), .second, .val (.int (0 : Int32)), .val (.int (0 : Int32)), .val (.int (p0 % (1048576 : Int32))), .unset, .unset, .unset, .unset, .unset, .unset, .unset] [(.int p1)])) rfl (hb hby at_71) _ k) ?_
      show Gl p.tables e below s₁ (mkF m 73 #[.val (.int p0), .val (.int p1), .val (.int p2), .val (.long p3), .second, .val (.int (0 : Int32)), .val (.int (0 : Int32)), .val (.int (p0 % (1048576 : Int32))), .unset, .unset, .unset, .unset, .unset, .unset, .unset] [(.int (1048575 : Int32)), (.int p1)]) G
      refine Gl.via (fun _ k => XS.iand X0.here hx rfl (hb hby at_73) rfl k) ?_
      show Gl p.tables e below s₁ (mkF m 74 #[.val (.int p0), .val (.int p1), .val (.int p2), .val (.long p3), .second, .val (.int (0 : Int32)), .val (.int (0 : Int32)), .val (.int (p0 % (1048576 : Int32))), .unset, .unset, .unset, .unset, .unset, .unset, .unset] [(.int (p1 &&& (1048575 : Int32)))]) G
      refine Gl.via (fun _ k => XS.iconst X0.here hx rfl (hb hby at_74) k) ?_
      show Gl p.tables e below s₁ (mkF m 75 #[.val (.int p0), .val (.int p1), .val (.int p2), .val (.long p3), .second, .val (.int (0 : Int32)), .val (.int (0 : Int32)), .val (.int (p0 % (1048576 : Int32))), .unset, .unset, .unset, .unset, .unset, .unset, .unset] [(.int (1 : Int32)), (.int (p1 &&& (1048575 : Int32)))]) G
      refine Gl.via (fun _ k => XS.iadd X0.here hx rfl (hb hby at_75) rfl k) ?_
      show Gl p.tables e below s₁ (mkF m 76 #[.val (.int p0), .val (.int p1), .val (.int p2), .val (.long p3), .second, .val (.int (0 : Int32)), .val (.int (0 : Int32)), .val (.int (p0 % (1048576 : Int32))), .unset, .unset, .unset, .unset, .unset, .unset, .unset] [(.int ((p1 &&& (1048575 : Int32)) + (1 : Int32)))]) G
      refine Gl.via (fun _ k => XS.istore X0.here hx rfl (hb hby at_76) rfl (l' := #[.val (.int p0), .val (.int p1), .val (.int p2), .val (.long p3), .second, .val (.int (0 : Int32)), .val (.int (0 : Int32)), .val (.int (p0 % (1048576 : Int32))), .val (.int ((p1 &&& (1048575 : Int32)) + (1 : Int32))), .unset, .unset, .unset, .unset, .unset, .unset]) rfl k) ?_
      show Gl p.tables e below s₁ (mkF m 78 #[.val (.int p0), .val (.int p1), .val (.int p2), .val (.long p3), .second, .val (.int (0 : Int32)), .val (.int (0 : Int32)), .val (.int (p0 % (1048576 : Int32))), .val (.int ((p1 &&& (1048575 : Int32)) + (1 : Int32))), .unset, .unset, .unset, .unset, .unset, .unset] []) G
      refine Gl.via (fun _ k => XS.iload X0.here hx rfl (hb hby at_78) rfl k) ?_
      show Gl p.tables e below s₁ (mkF m 80 #[.val (.int p0), .val (.int p1), .val (.int p2), .val (.long p3), .second, .val (.int (0 : Int32)), .val (.int (0 : Int32)), .val (.int (p0 % (1048576 : Int32))), .val (.int ((p1 &&& (1048575 : Int32)) + (1 : Int32))), .unset, .unset, .unset, .unset, .unset, .unset] [(.int (0 : Int32))]) G
      refine Gl.via (fun _ k => XS.ifYes X0.here hx rfl (pc0 := 80) (pc' := 89) rfl (hb hby at_80) rfl ((if0 _ _).trans (teq (by decide)).1) (by decide) (by decide) k) ?_
      show Gl p.tables e below s₁ (mkF m 89 #[.val (.int p0), .val (.int p1), .val (.int p2), .val (.long p3), .second, .val (.int (0 : Int32)), .val (.int (0 : Int32)), .val (.int (p0 % (1048576 : Int32))), .val (.int ((p1 &&& (1048575 : Int32)) + (1 : Int32))), .unset, .unset, .unset, .unset, .unset, .unset] []) G
      refine Gl.via (fun _ k => XS.iload X0.here hx rfl (hb hby at_89) rfl k) ?_
      show Gl p.tables e below s₁ (mkF m 91 #[.val (.int p0), .val (.int p1), .val (.int p2), .val (.long p3), .second, .val (.int (0 : Int32)), .val (.int (0 : Int32)), .val (.int (p0 % (1048576 : Int32))), .val (.int ((p1 &&& (1048575 : Int32)) + (1 : Int32))), .unset, .unset, .unset, .unset, .unset, .unset] [(.int (p0 % (1048576 : Int32)))]) G
      refine Gl.via (fun _ k => XS.istore X0.here hx rfl (hb hby at_91) rfl (l' := #[.val (.int p0), .val (.int p1), .val (.int p2), .val (.long p3), .second, .val (.int (0 : Int32)), .val (.int (0 : Int32)), .val (.int (p0 % (1048576 : Int32))), .val (.int ((p1 &&& (1048575 : Int32)) + (1 : Int32))), .val (.int (p0 % (1048576 : Int32))), .unset, .unset, .unset, .unset, .unset]) rfl k) ?_
      show Gl p.tables e below s₁ (mkF m 93 #[.val (.int p0), .val (.int p1), .val (.int p2), .val (.long p3), .second, .val (.int (0 : Int32)), .val (.int (0 : Int32)), .val (.int (p0 % (1048576 : Int32))), .val (.int ((p1 &&& (1048575 : Int32)) + (1 : Int32))), .val (.int (p0 % (1048576 : Int32))), .unset, .unset, .unset, .unset, .unset] []) G
      refine Gl.via (fun _ k => XS.iload X0.here hx rfl (hb hby at_93) rfl k) ?_
      show Gl p.tables e below s₁ (mkF m 95 #[.val (.int p0), .val (.int p1), .val (.int p2), .val (.long p3), .second, .val (.int (0 : Int32)), .val (.int (0 : Int32)), .val (.int (p0 % (1048576 : Int32))), .val (.int ((p1 &&& (1048575 : Int32)) + (1 : Int32))), .val (.int (p0 % (1048576 : Int32))), .unset, .unset, .unset, .unset, .unset] [(.int (p0 % (1048576 : Int32)))]) G
      refine Gl.via (fun _ k => XS.i2dS X0.here hx rfl (hb hby at_95) rfl rfl k) ?_
      show Gl p.tables e below s₁ (mkF m 96 #[.val (.int p0), .val (.int p1), .val (.int p2), .val (.long p3), .second, .val (.int (0 : Int32)), .val (.int (0 : Int32)), .val (.int (p0 % (1048576 : Int32))), .val (.int ((p1 &&& (1048575 : Int32)) + (1 : Int32))), .val (.int (p0 % (1048576 : Int32))), .unset, .unset, .unset, .unset, .unset] [(.double (FP.i2d (p0 % (1048576 : Int32))))]) G
      refine Gl.via (fun _ k => XS.iload X0.here hx rfl (hb hby at_96) rfl k) ?_
      show Gl p.tables e below s₁ (mkF m 98 #[.val (.int p0), .val (.int p1), .val (.int p2), .val (.long p3), .second, .val (.int (0 : Int32)), .val (.int (0 : Int32)), .val (.int (p0 % (1048576 : Int32))), .val (.int ((p1 &&& (1048575 : Int32)) + (1 : Int32))), .val (.int (p0 % (1048576 : Int32))), .unset, .unset, .unset, .unset, .unset] [(.int ((p1 &&& (1048575 : Int32)) + (1 : Int32))), (.double (FP.i2d (p0 % (1048576 : Int32))))]) G
      refine Gl.via (fun _ k => XS.i2dS X0.here hx rfl (hb hby at_98) rfl rfl k) ?_
      show Gl p.tables e below s₁ (mkF m 99 #[.val (.int p0), .val (.int p1), .val (.int p2), .val (.long p3), .second, .val (.int (0 : Int32)), .val (.int (0 : Int32)), .val (.int (p0 % (1048576 : Int32))), .val (.int ((p1 &&& (1048575 : Int32)) + (1 : Int32))), .val (.int (p0 % (1048576 : Int32))), .unset, .unset, .unset, .unset, .unset] [(.double (FP.i2d ((p1 &&& (1048575 : Int32)) + (1 : Int32)))), (.double (FP.i2d (p0 % (1048576 : Int32))))]) G
      refine Gl.via (fun _ k => XS.ddivS X0.here hx rfl (hb hby at_99) rfl (own_div_ok (by omega)) rfl k) ?_
      show Gl p.tables e below s₁ (mkF m 100 #[.val (.int p0), .val (.int p1), .val (.int p2), .val (.long p3), .second, .val (.int (0 : Int32)), .val (.int (0 : Int32)), .val (.int (p0 % (1048576 : Int32))), .val (.int ((p1 &&& (1048575 : Int32)) + (1 : Int32))), .val (.int (p0 % (1048576 : Int32))), .unset, .unset, .unset, .unset, .unset] [(.double (FP.ddiv (FP.i2d (p0 % (1048576 : Int32))) (FP.i2d ((p1 &&& (1048575 : Int32)) + (1 : Int32)))))]) G
      refine Gl.via (fun _ k => XS.dstore X0.here hx rfl (hb hby at_100) rfl (l' := #[.val (.int p0), .val (.int p1), .val (.int p2), .val (.long p3), .second, .val (.int (0 : Int32)), .val (.int (0 : Int32)), .val (.int (p0 % (1048576 : Int32))), .val (.int ((p1 &&& (1048575 : Int32)) + (1 : Int32))), .val (.int (p0 % (1048576 : Int32))), .val (.double (FP.ddiv (FP.i2d (p0 % (1048576 : Int32))) (FP.i2d ((p1 &&& (1048575 : Int32)) + (1 : Int32))))), .second, .unset, .unset, .unset]) rfl k) ?_
      show Gl p.tables e below s₁ (mkF m 102 #[.val (.int p0), .val (.int p1), .val (.int p2), .val (.long p3), .second, .val (.int (0 : Int32)), .val (.int (0 : Int32)), .val (.int (p0 % (1048576 : Int32))), .val (.int ((p1 &&& (1048575 : Int32)) + (1 : Int32))), .val (.int (p0 % (1048576 : Int32))), .val (.double (FP.ddiv (FP.i2d (p0 % (1048576 : Int32))) (FP.i2d ((p1 &&& (1048575 : Int32)) + (1 : Int32))))), .second, .unset, .unset, .unset] []) G
      refine Gl.via (fun _ k => XS.iload X0.here hx rfl (hb hby at_102) rfl k) ?_
      show Gl p.tables e below s₁ (mkF m 104 #[.val (.int p0), .val (.int p1), .val (.int p2), .val (.long p3), .second, .val (.int (0 : Int32)), .val (.int (0 : Int32)), .val (.int (p0 % (1048576 : Int32))), .val (.int ((p1 &&& (1048575 : Int32)) + (1 : Int32))), .val (.int (p0 % (1048576 : Int32))), .val (.double (FP.ddiv (FP.i2d (p0 % (1048576 : Int32))) (FP.i2d ((p1 &&& (1048575 : Int32)) + (1 : Int32))))), .second, .unset, .unset, .unset] [(.int (0 : Int32))]) G
      refine Gl.via (fun _ k => XS.ifYes X0.here hx rfl (pc0 := 104) (pc' := 113) rfl (hb hby at_104) rfl ((if0 _ _).trans (teq (by decide)).1) (by decide) (by decide) k) ?_
      show Gl p.tables e below s₁ (mkF m 113 #[.val (.int p0), .val (.int p1), .val (.int p2), .val (.long p3), .second, .val (.int (0 : Int32)), .val (.int (0 : Int32)), .val (.int (p0 % (1048576 : Int32))), .val (.int ((p1 &&& (1048575 : Int32)) + (1 : Int32))), .val (.int (p0 % (1048576 : Int32))), .val (.double (FP.ddiv (FP.i2d (p0 % (1048576 : Int32))) (FP.i2d ((p1 &&& (1048575 : Int32)) + (1 : Int32))))), .second, .unset, .unset, .unset] []) G
      refine Gl.via (fun _ k => XS.dload X0.here hx rfl (hb hby at_113) rfl k) ?_
      show Gl p.tables e below s₁ (mkF m 115 #[.val (.int p0), .val (.int p1), .val (.int p2), .val (.long p3), .second, .val (.int (0 : Int32)), .val (.int (0 : Int32)), .val (.int (p0 % (1048576 : Int32))), .val (.int ((p1 &&& (1048575 : Int32)) + (1 : Int32))), .val (.int (p0 % (1048576 : Int32))), .val (.double (FP.ddiv (FP.i2d (p0 % (1048576 : Int32))) (FP.i2d ((p1 &&& (1048575 : Int32)) + (1 : Int32))))), .second, .unset, .unset, .unset] [(.double (FP.ddiv (FP.i2d (p0 % (1048576 : Int32))) (FP.i2d ((p1 &&& (1048575 : Int32)) + (1 : Int32)))))]) G
      refine Gl.via (fun _ k => XS.dstore X0.here hx rfl (hb hby at_115) rfl (l' := #[.val (.int p0), .val (.int p1), .val (.int p2), .val (.long p3), .second, .val (.int (0 : Int32)), .val (.int (0 : Int32)), .val (.int (p0 % (1048576 : Int32))), .val (.int ((p1 &&& (1048575 : Int32)) + (1 : Int32))), .val (.int (p0 % (1048576 : Int32))), .val (.double (FP.ddiv (FP.i2d (p0 % (1048576 : Int32))) (FP.i2d ((p1 &&& (1048575 : Int32)) + (1 : Int32))))), .second, .val (.double (FP.ddiv (FP.i2d (p0 % (1048576 : Int32))) (FP.i2d ((p1 &&& (1048575 : Int32)) + (1 : Int32))))), .second, .unset]) rfl k) ?_
      show Gl p.tables e below s₁ (mkF m 117 #[.val (.int p0), .val (.int p1), .val (.int p2), .val (.long p3), .second, .val (.int (0 : Int32)), .val (.int (0 : Int32)), .val (.int (p0 % (1048576 : Int32))), .val (.int ((p1 &&& (1048575 : Int32)) + (1 : Int32))), .val (.int (p0 % (1048576 : Int32))), .val (.double (FP.ddiv (FP.i2d (p0 % (1048576 : Int32))) (FP.i2d ((p1 &&& (1048575 : Int32)) + (1 : Int32))))), .second, .val (.double (FP.ddiv (FP.i2d (p0 % (1048576 : Int32))) (FP.i2d ((p1 &&& (1048575 : Int32)) + (1 : Int32))))), .second, .unset] []) G
      have hR := own_R (own_i2d (p0 % (1048576 : Int32))) (own_i2d ((p1 &&& (1048575 : Int32)) + (1 : Int32))) (by omega) (by omega)
      refine Gl.via (fun _ k => XS.iload X0.here hx rfl (hb hby at_117) rfl k) ?_
      show Gl p.tables e below s₁ (mkF m 119 #[.val (.int p0), .val (.int p1), .val (.int p2), .val (.long p3), .second, .val (.int (0 : Int32)), .val (.int (0 : Int32)), .val (.int (p0 % (1048576 : Int32))), .val (.int ((p1 &&& (1048575 : Int32)) + (1 : Int32))), .val (.int (p0 % (1048576 : Int32))), .val (.double (FP.ddiv (FP.i2d (p0 % (1048576 : Int32))) (FP.i2d ((p1 &&& (1048575 : Int32)) + (1 : Int32))))), .second, .val (.double (FP.ddiv (FP.i2d (p0 % (1048576 : Int32))) (FP.i2d ((p1 &&& (1048575 : Int32)) + (1 : Int32))))), .second, .unset] [(.int (p0 % (1048576 : Int32)))]) G
      by_cases sl : (p0 % (1048576 : Int32)) < (0 : Int32)
      · refine Gl.via (fun _ k => XS.ifYes X0.here hx rfl (pc0 := 119) (pc' := 133) rfl (hb hby at_119) rfl ((if0 _ _).trans (tlt sl).1) (by decide) (by decide) k) ?_
        show Gl p.tables e below s₁ (mkF m 133 #[.val (.int p0), .val (.int p1), .val (.int p2), .val (.long p3), .second, .val (.int (0 : Int32)), .val (.int (0 : Int32)), .val (.int (p0 % (1048576 : Int32))), .val (.int ((p1 &&& (1048575 : Int32)) + (1 : Int32))), .val (.int (p0 % (1048576 : Int32))), .val (.double (FP.ddiv (FP.i2d (p0 % (1048576 : Int32))) (FP.i2d ((p1 &&& (1048575 : Int32)) + (1 : Int32))))), .second, .val (.double (FP.ddiv (FP.i2d (p0 % (1048576 : Int32))) (FP.i2d ((p1 &&& (1048575 : Int32)) + (1 : Int32))))), .second, .unset] []) G
        refine Gl.via (fun _ k => XS.iconst X0.here hx rfl (hb hby at_133) k) ?_
        show Gl p.tables e below s₁ (mkF m 134 #[.val (.int p0), .val (.int p1), .val (.int p2), .val (.long p3), .second, .val (.int (0 : Int32)), .val (.int (0 : Int32)), .val (.int (p0 % (1048576 : Int32))), .val (.int ((p1 &&& (1048575 : Int32)) + (1 : Int32))), .val (.int (p0 % (1048576 : Int32))), .val (.double (FP.ddiv (FP.i2d (p0 % (1048576 : Int32))) (FP.i2d ((p1 &&& (1048575 : Int32)) + (1 : Int32))))), .second, .val (.double (FP.ddiv (FP.i2d (p0 % (1048576 : Int32))) (FP.i2d ((p1 &&& (1048575 : Int32)) + (1 : Int32))))), .second, .unset] [(.int (0 : Int32))]) G
        refine Gl.via (fun _ k => XS.istore X0.here hx rfl (hb hby at_134) rfl (l' := #[.val (.int p0), .val (.int p1), .val (.int p2), .val (.long p3), .second, .val (.int (0 : Int32)), .val (.int (0 : Int32)), .val (.int (p0 % (1048576 : Int32))), .val (.int ((p1 &&& (1048575 : Int32)) + (1 : Int32))), .val (.int (p0 % (1048576 : Int32))), .val (.double (FP.ddiv (FP.i2d (p0 % (1048576 : Int32))) (FP.i2d ((p1 &&& (1048575 : Int32)) + (1 : Int32))))), .second, .val (.double (FP.ddiv (FP.i2d (p0 % (1048576 : Int32))) (FP.i2d ((p1 &&& (1048575 : Int32)) + (1 : Int32))))), .second, .val (.int (0 : Int32))]) rfl k) ?_
        show Gl p.tables e below s₁ (mkF m 136 #[.val (.int p0), .val (.int p1), .val (.int p2), .val (.long p3), .second, .val (.int (0 : Int32)), .val (.int (0 : Int32)), .val (.int (p0 % (1048576 : Int32))), .val (.int ((p1 &&& (1048575 : Int32)) + (1 : Int32))), .val (.int (p0 % (1048576 : Int32))), .val (.double (FP.ddiv (FP.i2d (p0 % (1048576 : Int32))) (FP.i2d ((p1 &&& (1048575 : Int32)) + (1 : Int32))))), .second, .val (.double (FP.ddiv (FP.i2d (p0 % (1048576 : Int32))) (FP.i2d ((p1 &&& (1048575 : Int32)) + (1 : Int32))))), .second, .val (.int (0 : Int32))] []) G
        refine Gl.via (fun _ k => XS.dload X0.here hx rfl (hb hby at_136) rfl k) ?_
        show Gl p.tables e below s₁ (mkF m 138 #[.val (.int p0), .val (.int p1), .val (.int p2), .val (.long p3), .second, .val (.int (0 : Int32)), .val (.int (0 : Int32)), .val (.int (p0 % (1048576 : Int32))), .val (.int ((p1 &&& (1048575 : Int32)) + (1 : Int32))), .val (.int (p0 % (1048576 : Int32))), .val (.double (FP.ddiv (FP.i2d (p0 % (1048576 : Int32))) (FP.i2d ((p1 &&& (1048575 : Int32)) + (1 : Int32))))), .second, .val (.double (FP.ddiv (FP.i2d (p0 % (1048576 : Int32))) (FP.i2d ((p1 &&& (1048575 : Int32)) + (1 : Int32))))), .second, .val (.int (0 : Int32))] [(.double (FP.ddiv (FP.i2d (p0 % (1048576 : Int32))) (FP.i2d ((p1 &&& (1048575 : Int32)) + (1 : Int32)))))]) G
        obtain ⟨_, _, ⟨T1, L1, k1, n1⟩, -, X1, ⟨Lc1, hQ1, l1, y1, z1⟩, st1⟩ := Jvm.LawKit.callS X0 hx (y := (⟨"com/example/kereso/kereso/PageRank", "isDamping", "(D)Z"⟩ : MethodName)) hown (mvT hZ (hw _ (List.mem_of_getElem? (i := 0) rfl))) (mvT hZ (hw _ (List.mem_of_getElem? (i := 1) rfl))) (mvT hZ (hw _ (List.mem_of_getElem? (i := 2) rfl))) (mvT hZ (hw _ (List.mem_of_getElem? (i := 3) rfl))) (by decide) (backOf (W := 0) (dm0a l Z a0 hw [] (FP.ddiv (FP.i2d (p0 % (1048576 : Int32))) (FP.i2d ((p1 &&& (1048575 : Int32)) + (1 : Int32)))) h0 n0 Z0 (own_lt0 hR (own_z sl))) hZ (hw _ (List.mem_of_getElem? (i := 3) rfl)) (hw _ (List.mem_of_getElem? (i := 2) rfl)) (by decide) (by decide)) (g := (mkF m 138 #[.val (.int p0), .val (.int p1), .val (.int p2), .val (.long p3), .second, .val (.int (0 : Int32)), .val (.int (0 : Int32)), .val (.int (p0 % (1048576 : Int32))), .val (.int ((p1 &&& (1048575 : Int32)) + (1 : Int32))), .val (.int (p0 % (1048576 : Int32))), .val (.double (FP.ddiv (FP.i2d (p0 % (1048576 : Int32))) (FP.i2d ((p1 &&& (1048575 : Int32)) + (1 : Int32))))), .second, .val (.double (FP.ddiv (FP.i2d (p0 % (1048576 : Int32))) (FP.i2d ((p1 &&& (1048575 : Int32)) + (1 : Int32))))), .second, .val (.int (0 : Int32))] [(.double (FP.ddiv (FP.i2d (p0 % (1048576 : Int32))) (FP.i2d ((p1 &&& (1048575 : Int32)) + (1 : Int32)))))])) rfl (by rw [hml]; rfl) (argsL := [(.double (FP.ddiv (FP.i2d (p0 % (1048576 : Int32))) (FP.i2d ((p1 &&& (1048575 : Int32)) + (1 : Int32)))))]) (rest := []) (lenOf pd_0 rfl) rfl (by show 2 * 0 + _ ≤ _; exact Nat.le_of_eq rfl) (hb hby at_138) (fun _ _ => ⟨rfl, e0, (by decide : 0 + 0 ≤ _), (by decide : 0 + 0 ≤ _)⟩)
        dsimp only [Pt.U, Pt.locs, Pt.cells, Pt.slots] at X1 l1 y1 z1 st1 hQ1
        subst l1 y1 z1
        obtain ⟨rfl, N1q, eh1⟩ := hQ1
        have N1_ := Fr.app N0 N1q
        refine Gl.via (fun _ k => st1 _ k) ?_
        show Gl p.tables e below T1 (mkF m 141 #[.val (.int p0), .val (.int p1), .val (.int p2), .val (.long p3), .second, .val (.int (0 : Int32)), .val (.int (0 : Int32)), .val (.int (p0 % (1048576 : Int32))), .val (.int ((p1 &&& (1048575 : Int32)) + (1 : Int32))), .val (.int (p0 % (1048576 : Int32))), .val (.double (FP.ddiv (FP.i2d (p0 % (1048576 : Int32))) (FP.i2d ((p1 &&& (1048575 : Int32)) + (1 : Int32))))), .second, .val (.double (FP.ddiv (FP.i2d (p0 % (1048576 : Int32))) (FP.i2d ((p1 &&& (1048575 : Int32)) + (1 : Int32))))), .second, .val (.int (0 : Int32))] [(.int (0 : Int32))]) G
        refine Gl.via (fun _ k => XS.iload X1.here hx rfl (hb hby at_141) rfl k) ?_
        show Gl p.tables e below T1 (mkF m 143 #[.val (.int p0), .val (.int p1), .val (.int p2), .val (.long p3), .second, .val (.int (0 : Int32)), .val (.int (0 : Int32)), .val (.int (p0 % (1048576 : Int32))), .val (.int ((p1 &&& (1048575 : Int32)) + (1 : Int32))), .val (.int (p0 % (1048576 : Int32))), .val (.double (FP.ddiv (FP.i2d (p0 % (1048576 : Int32))) (FP.i2d ((p1 &&& (1048575 : Int32)) + (1 : Int32))))), .second, .val (.double (FP.ddiv (FP.i2d (p0 % (1048576 : Int32))) (FP.i2d ((p1 &&& (1048575 : Int32)) + (1 : Int32))))), .second, .val (.int (0 : Int32))] [(.int (0 : Int32)), (.int (0 : Int32))]) G
        refine Gl.via (fun _ k => XS.icmpNo X1.here hx rfl (hb hby at_143) rfl (teq (by decide)).2 k) ?_
        show Gl p.tables e below T1 (mkF m 146 #[.val (.int p0), .val (.int p1), .val (.int p2), .val (.long p3), .second, .val (.int (0 : Int32)), .val (.int (0 : Int32)), .val (.int (p0 % (1048576 : Int32))), .val (.int ((p1 &&& (1048575 : Int32)) + (1 : Int32))), .val (.int (p0 % (1048576 : Int32))), .val (.double (FP.ddiv (FP.i2d (p0 % (1048576 : Int32))) (FP.i2d ((p1 &&& (1048575 : Int32)) + (1 : Int32))))), .second, .val (.double (FP.ddiv (FP.i2d (p0 % (1048576 : Int32))) (FP.i2d ((p1 &&& (1048575 : Int32)) + (1 : Int32))))), .second, .val (.int (0 : Int32))] []) G
        refine Gl.via (fun _ k => XS.iconst X1.here hx rfl (hb hby at_146) k) ?_
        show Gl p.tables e below T1 (mkF m 147 #[.val (.int p0), .val (.int p1), .val (.int p2), .val (.long p3), .second, .val (.int (0 : Int32)), .val (.int (0 : Int32)), .val (.int (p0 % (1048576 : Int32))), .val (.int ((p1 &&& (1048575 : Int32)) + (1 : Int32))), .val (.int (p0 % (1048576 : Int32))), .val (.double (FP.ddiv (FP.i2d (p0 % (1048576 : Int32))) (FP.i2d ((p1 &&& (1048575 : Int32)) + (1 : Int32))))), .second, .val (.double (FP.ddiv (FP.i2d (p0 % (1048576 : Int32))) (FP.i2d ((p1 &&& (1048575 : Int32)) + (1 : Int32))))), .second, .val (.int (0 : Int32))] [(.int (1 : Int32))]) G
        refine Gl.via (fun _ k => XS.goto X1.here hx rfl (pc0 := 147) (pc' := 151) rfl (hb hby at_147) (by decide) (by decide) k) ?_
        show Gl p.tables e below T1 (mkF m 151 #[.val (.int p0), .val (.int p1), .val (.int p2), .val (.long p3), .second, .val (.int (0 : Int32)), .val (.int (0 : Int32)), .val (.int (p0 % (1048576 : Int32))), .val (.int ((p1 &&& (1048575 : Int32)) + (1 : Int32))), .val (.int (p0 % (1048576 : Int32))), .val (.double (FP.ddiv (FP.i2d (p0 % (1048576 : Int32))) (FP.i2d ((p1 &&& (1048575 : Int32)) + (1 : Int32))))), .second, .val (.double (FP.ddiv (FP.i2d (p0 % (1048576 : Int32))) (FP.i2d ((p1 &&& (1048575 : Int32)) + (1 : Int32))))), .second, .val (.int (0 : Int32))] [(.int (1 : Int32))]) G
        obtain ⟨fs, hr, hrun, hended, hW, hsame⟩ := X1.leave (v := some (.int (1 : Int32))) (fun h => by rw [Bd.returns] at h; cases h)
        have hq : ∀ L, Fr n0 L → Q_rm0 Z p0 p1 p2 p3 h0 n0 (some (.int (1 : Int32))) T1.heap L := by
          intro L hN
          rw [eh1]
          exact ⟨rfl, hN⟩
        rw [hG]
        exact Gl.fin (retN X1 hx (t := .boolean) Bd.returns (by simp) (hb hby at_151) hr) ⟨_, hrun, hended, _, _, rfl, hq _ N1_, ⟨_, rfl⟩, hW, hsame.mono (by decide) (by decide)⟩
      · refine Gl.via (fun _ k => XS.ifNo X0.here hx rfl (hb hby at_119) rfl ((if0 _ _).trans (flt sl).1) k) ?_
        show Gl p.tables e below s₁ (mkF m 122 #[.val (.int p0), .val (.int p1), .val (.int p2), .val (.long p3), .second, .val (.int (0 : Int32)), .val (.int (0 : Int32)), .val (.int (p0 % (1048576 : Int32))), .val (.int ((p1 &&& (1048575 : Int32)) + (1 : Int32))), .val (.int (p0 % (1048576 : Int32))), .val (.double (FP.ddiv (FP.i2d (p0 % (1048576 : Int32))) (FP.i2d ((p1 &&& (1048575 : Int32)) + (1 : Int32))))), .second, .val (.double (FP.ddiv (FP.i2d (p0 % (1048576 : Int32))) (FP.i2d ((p1 &&& (1048575 : Int32)) + (1 : Int32))))), .second, .unset] []) G
        refine Gl.via (fun _ k => XS.iload X0.here hx rfl (hb hby at_122) rfl k) ?_
        show Gl p.tables e below s₁ (mkF m 124 #[.val (.int p0), .val (.int p1), .val (.int p2), .val (.long p3), .second, .val (.int (0 : Int32)), .val (.int (0 : Int32)), .val (.int (p0 % (1048576 : Int32))), .val (.int ((p1 &&& (1048575 : Int32)) + (1 : Int32))), .val (.int (p0 % (1048576 : Int32))), .val (.double (FP.ddiv (FP.i2d (p0 % (1048576 : Int32))) (FP.i2d ((p1 &&& (1048575 : Int32)) + (1 : Int32))))), .second, .val (.double (FP.ddiv (FP.i2d (p0 % (1048576 : Int32))) (FP.i2d ((p1 &&& (1048575 : Int32)) + (1 : Int32))))), .second, .unset] [(.int (p0 % (1048576 : Int32)))]) G
        refine Gl.via (fun _ k => XS.iload X0.here hx rfl (hb hby at_124) rfl k) ?_
        show Gl p.tables e below s₁ (mkF m 126 #[.val (.int p0), .val (.int p1), .val (.int p2), .val (.long p3), .second, .val (.int (0 : Int32)), .val (.int (0 : Int32)), .val (.int (p0 % (1048576 : Int32))), .val (.int ((p1 &&& (1048575 : Int32)) + (1 : Int32))), .val (.int (p0 % (1048576 : Int32))), .val (.double (FP.ddiv (FP.i2d (p0 % (1048576 : Int32))) (FP.i2d ((p1 &&& (1048575 : Int32)) + (1 : Int32))))), .second, .val (.double (FP.ddiv (FP.i2d (p0 % (1048576 : Int32))) (FP.i2d ((p1 &&& (1048575 : Int32)) + (1 : Int32))))), .second, .unset] [(.int ((p1 &&& (1048575 : Int32)) + (1 : Int32))), (.int (p0 % (1048576 : Int32)))]) G
        by_cases sg : (p0 % (1048576 : Int32)) < ((p1 &&& (1048575 : Int32)) + (1 : Int32))
        · refine Gl.via (fun _ k => XS.icmpNo X0.here hx rfl (hb hby at_126) rfl (tlt sg).2.1 k) ?_
          show Gl p.tables e below s₁ (mkF m 129 #[.val (.int p0), .val (.int p1), .val (.int p2), .val (.long p3), .second, .val (.int (0 : Int32)), .val (.int (0 : Int32)), .val (.int (p0 % (1048576 : Int32))), .val (.int ((p1 &&& (1048575 : Int32)) + (1 : Int32))), .val (.int (p0 % (1048576 : Int32))), .val (.double (FP.ddiv (FP.i2d (p0 % (1048576 : Int32))) (FP.i2d ((p1 &&& (1048575 : Int32)) + (1 : Int32))))), .second, .val (.double (FP.ddiv (FP.i2d (p0 % (1048576 : Int32))) (FP.i2d ((p1 &&& (1048575 : Int32)) + (1 : Int32))))), .second, .unset] []) G
          refine Gl.via (fun _ k => XS.iconst X0.here hx rfl (hb hby at_129) k) ?_
          show Gl p.tables e below s₁ (mkF m 130 #[.val (.int p0), .val (.int p1), .val (.int p2), .val (.long p3), .second, .val (.int (0 : Int32)), .val (.int (0 : Int32)), .val (.int (p0 % (1048576 : Int32))), .val (.int ((p1 &&& (1048575 : Int32)) + (1 : Int32))), .val (.int (p0 % (1048576 : Int32))), .val (.double (FP.ddiv (FP.i2d (p0 % (1048576 : Int32))) (FP.i2d ((p1 &&& (1048575 : Int32)) + (1 : Int32))))), .second, .val (.double (FP.ddiv (FP.i2d (p0 % (1048576 : Int32))) (FP.i2d ((p1 &&& (1048575 : Int32)) + (1 : Int32))))), .second, .unset] [(.int (1 : Int32))]) G
          refine Gl.via (fun _ k => XS.goto X0.here hx rfl (pc0 := 130) (pc' := 134) rfl (hb hby at_130) (by decide) (by decide) k) ?_
          show Gl p.tables e below s₁ (mkF m 134 #[.val (.int p0), .val (.int p1), .val (.int p2), .val (.long p3), .second, .val (.int (0 : Int32)), .val (.int (0 : Int32)), .val (.int (p0 % (1048576 : Int32))), .val (.int ((p1 &&& (1048575 : Int32)) + (1 : Int32))), .val (.int (p0 % (1048576 : Int32))), .val (.double (FP.ddiv (FP.i2d (p0 % (1048576 : Int32))) (FP.i2d ((p1 &&& (1048575 : Int32)) + (1 : Int32))))), .second, .val (.double (FP.ddiv (FP.i2d (p0 % (1048576 : Int32))) (FP.i2d ((p1 &&& (1048575 : Int32)) + (1 : Int32))))), .second, .unset] [(.int (1 : Int32))]) G
          refine Gl.via (fun _ k => XS.istore X0.here hx rfl (hb hby at_134) rfl (l' := #[.val (.int p0), .val (.int p1), .val (.int p2), .val (.long p3), .second, .val (.int (0 : Int32)), .val (.int (0 : Int32)), .val (.int (p0 % (1048576 : Int32))), .val (.int ((p1 &&& (1048575 : Int32)) + (1 : Int32))), .val (.int (p0 % (1048576 : Int32))), .val (.double (FP.ddiv (FP.i2d (p0 % (1048576 : Int32))) (FP.i2d ((p1 &&& (1048575 : Int32)) + (1 : Int32))))), .second, .val (.double (FP.ddiv (FP.i2d (p0 % (1048576 : Int32))) (FP.i2d ((p1 &&& (1048575 : Int32)) + (1 : Int32))))), .second, .val (.int (1 : Int32))]) rfl k) ?_
          show Gl p.tables e below s₁ (mkF m 136 #[.val (.int p0), .val (.int p1), .val (.int p2), .val (.long p3), .second, .val (.int (0 : Int32)), .val (.int (0 : Int32)), .val (.int (p0 % (1048576 : Int32))), .val (.int ((p1 &&& (1048575 : Int32)) + (1 : Int32))), .val (.int (p0 % (1048576 : Int32))), .val (.double (FP.ddiv (FP.i2d (p0 % (1048576 : Int32))) (FP.i2d ((p1 &&& (1048575 : Int32)) + (1 : Int32))))), .second, .val (.double (FP.ddiv (FP.i2d (p0 % (1048576 : Int32))) (FP.i2d ((p1 &&& (1048575 : Int32)) + (1 : Int32))))), .second, .val (.int (1 : Int32))] []) G
          refine Gl.via (fun _ k => XS.dload X0.here hx rfl (hb hby at_136) rfl k) ?_
          show Gl p.tables e below s₁ (mkF m 138 #[.val (.int p0), .val (.int p1), .val (.int p2), .val (.long p3), .second, .val (.int (0 : Int32)), .val (.int (0 : Int32)), .val (.int (p0 % (1048576 : Int32))), .val (.int ((p1 &&& (1048575 : Int32)) + (1 : Int32))), .val (.int (p0 % (1048576 : Int32))), .val (.double (FP.ddiv (FP.i2d (p0 % (1048576 : Int32))) (FP.i2d ((p1 &&& (1048575 : Int32)) + (1 : Int32))))), .second, .val (.double (FP.ddiv (FP.i2d (p0 % (1048576 : Int32))) (FP.i2d ((p1 &&& (1048575 : Int32)) + (1 : Int32))))), .second, .val (.int (1 : Int32))] [(.double (FP.ddiv (FP.i2d (p0 % (1048576 : Int32))) (FP.i2d ((p1 &&& (1048575 : Int32)) + (1 : Int32)))))]) G
          obtain ⟨_, _, ⟨T2, L2, k2, n2⟩, -, X2, ⟨Lc2, hQ2, l2, y2, z2⟩, st2⟩ := Jvm.LawKit.callS X0 hx (y := (⟨"com/example/kereso/kereso/PageRank", "isDamping", "(D)Z"⟩ : MethodName)) hown (mvT hZ (hw _ (List.mem_of_getElem? (i := 0) rfl))) (mvT hZ (hw _ (List.mem_of_getElem? (i := 1) rfl))) (mvT hZ (hw _ (List.mem_of_getElem? (i := 2) rfl))) (mvT hZ (hw _ (List.mem_of_getElem? (i := 3) rfl))) (by decide) (backOf (W := 0) (dm1 l Z a0 hw [] (FP.ddiv (FP.i2d (p0 % (1048576 : Int32))) (FP.i2d ((p1 &&& (1048575 : Int32)) + (1 : Int32)))) h0 n0 Z0 (own_ge0 hR (own_nz sl)) (own_lt1 hR (own_l sg))) hZ (hw _ (List.mem_of_getElem? (i := 3) rfl)) (hw _ (List.mem_of_getElem? (i := 2) rfl)) (by decide) (by decide)) (g := (mkF m 138 #[.val (.int p0), .val (.int p1), .val (.int p2), .val (.long p3), .second, .val (.int (0 : Int32)), .val (.int (0 : Int32)), .val (.int (p0 % (1048576 : Int32))), .val (.int ((p1 &&& (1048575 : Int32)) + (1 : Int32))), .val (.int (p0 % (1048576 : Int32))), .val (.double (FP.ddiv (FP.i2d (p0 % (1048576 : Int32))) (FP.i2d ((p1 &&& (1048575 : Int32)) + (1 : Int32))))), .second, .val (.double (FP.ddiv (FP.i2d (p0 % (1048576 : Int32))) (FP.i2d ((p1 &&& (1048575 : Int32)) + (1 : Int32))))), .second, .val (.int (1 : Int32))] [(.double (FP.ddiv (FP.i2d (p0 % (1048576 : Int32))) (FP.i2d ((p1 &&& (1048575 : Int32)) + (1 : Int32)))))])) rfl (by rw [hml]; rfl) (argsL := [(.double (FP.ddiv (FP.i2d (p0 % (1048576 : Int32))) (FP.i2d ((p1 &&& (1048575 : Int32)) + (1 : Int32)))))]) (rest := []) (lenOf pd_0 rfl) rfl (by show 2 * 0 + _ ≤ _; exact Nat.le_of_eq rfl) (hb hby at_138) (fun _ _ => ⟨rfl, e0, (by decide : 0 + 0 ≤ _), (by decide : 0 + 0 ≤ _)⟩)
          dsimp only [Pt.U, Pt.locs, Pt.cells, Pt.slots] at X2 l2 y2 z2 st2 hQ2
          subst l2 y2 z2
          obtain ⟨rfl, N2q, eh2⟩ := hQ2
          have N2_ := Fr.app N0 N2q
          refine Gl.via (fun _ k => st2 _ k) ?_
          show Gl p.tables e below T2 (mkF m 141 #[.val (.int p0), .val (.int p1), .val (.int p2), .val (.long p3), .second, .val (.int (0 : Int32)), .val (.int (0 : Int32)), .val (.int (p0 % (1048576 : Int32))), .val (.int ((p1 &&& (1048575 : Int32)) + (1 : Int32))), .val (.int (p0 % (1048576 : Int32))), .val (.double (FP.ddiv (FP.i2d (p0 % (1048576 : Int32))) (FP.i2d ((p1 &&& (1048575 : Int32)) + (1 : Int32))))), .second, .val (.double (FP.ddiv (FP.i2d (p0 % (1048576 : Int32))) (FP.i2d ((p1 &&& (1048575 : Int32)) + (1 : Int32))))), .second, .val (.int (1 : Int32))] [(.int (1 : Int32))]) G
          refine Gl.via (fun _ k => XS.iload X2.here hx rfl (hb hby at_141) rfl k) ?_
          show Gl p.tables e below T2 (mkF m 143 #[.val (.int p0), .val (.int p1), .val (.int p2), .val (.long p3), .second, .val (.int (0 : Int32)), .val (.int (0 : Int32)), .val (.int (p0 % (1048576 : Int32))), .val (.int ((p1 &&& (1048575 : Int32)) + (1 : Int32))), .val (.int (p0 % (1048576 : Int32))), .val (.double (FP.ddiv (FP.i2d (p0 % (1048576 : Int32))) (FP.i2d ((p1 &&& (1048575 : Int32)) + (1 : Int32))))), .second, .val (.double (FP.ddiv (FP.i2d (p0 % (1048576 : Int32))) (FP.i2d ((p1 &&& (1048575 : Int32)) + (1 : Int32))))), .second, .val (.int (1 : Int32))] [(.int (1 : Int32)), (.int (1 : Int32))]) G
          refine Gl.via (fun _ k => XS.icmpNo X2.here hx rfl (hb hby at_143) rfl (teq (by decide)).2 k) ?_
          show Gl p.tables e below T2 (mkF m 146 #[.val (.int p0), .val (.int p1), .val (.int p2), .val (.long p3), .second, .val (.int (0 : Int32)), .val (.int (0 : Int32)), .val (.int (p0 % (1048576 : Int32))), .val (.int ((p1 &&& (1048575 : Int32)) + (1 : Int32))), .val (.int (p0 % (1048576 : Int32))), .val (.double (FP.ddiv (FP.i2d (p0 % (1048576 : Int32))) (FP.i2d ((p1 &&& (1048575 : Int32)) + (1 : Int32))))), .second, .val (.double (FP.ddiv (FP.i2d (p0 % (1048576 : Int32))) (FP.i2d ((p1 &&& (1048575 : Int32)) + (1 : Int32))))), .second, .val (.int (1 : Int32))] []) G
          refine Gl.via (fun _ k => XS.iconst X2.here hx rfl (hb hby at_146) k) ?_
          show Gl p.tables e below T2 (mkF m 147 #[.val (.int p0), .val (.int p1), .val (.int p2), .val (.long p3), .second, .val (.int (0 : Int32)), .val (.int (0 : Int32)), .val (.int (p0 % (1048576 : Int32))), .val (.int ((p1 &&& (1048575 : Int32)) + (1 : Int32))), .val (.int (p0 % (1048576 : Int32))), .val (.double (FP.ddiv (FP.i2d (p0 % (1048576 : Int32))) (FP.i2d ((p1 &&& (1048575 : Int32)) + (1 : Int32))))), .second, .val (.double (FP.ddiv (FP.i2d (p0 % (1048576 : Int32))) (FP.i2d ((p1 &&& (1048575 : Int32)) + (1 : Int32))))), .second, .val (.int (1 : Int32))] [(.int (1 : Int32))]) G
          refine Gl.via (fun _ k => XS.goto X2.here hx rfl (pc0 := 147) (pc' := 151) rfl (hb hby at_147) (by decide) (by decide) k) ?_
          show Gl p.tables e below T2 (mkF m 151 #[.val (.int p0), .val (.int p1), .val (.int p2), .val (.long p3), .second, .val (.int (0 : Int32)), .val (.int (0 : Int32)), .val (.int (p0 % (1048576 : Int32))), .val (.int ((p1 &&& (1048575 : Int32)) + (1 : Int32))), .val (.int (p0 % (1048576 : Int32))), .val (.double (FP.ddiv (FP.i2d (p0 % (1048576 : Int32))) (FP.i2d ((p1 &&& (1048575 : Int32)) + (1 : Int32))))), .second, .val (.double (FP.ddiv (FP.i2d (p0 % (1048576 : Int32))) (FP.i2d ((p1 &&& (1048575 : Int32)) + (1 : Int32))))), .second, .val (.int (1 : Int32))] [(.int (1 : Int32))]) G
          obtain ⟨fs, hr, hrun, hended, hW, hsame⟩ := X2.leave (v := some (.int (1 : Int32))) (fun h => by rw [Bd.returns] at h; cases h)
          have hq : ∀ L, Fr n0 L → Q_rm0 Z p0 p1 p2 p3 h0 n0 (some (.int (1 : Int32))) T2.heap L := by
            intro L hN
            rw [eh2]
            exact ⟨rfl, hN⟩
          rw [hG]
          exact Gl.fin (retN X2 hx (t := .boolean) Bd.returns (by simp) (hb hby at_151) hr) ⟨_, hrun, hended, _, _, rfl, hq _ N2_, ⟨_, rfl⟩, hW, hsame.mono (by decide) (by decide)⟩
        · refine Gl.via (fun _ k => XS.icmpYes X0.here hx rfl (pc0 := 126) (pc' := 133) rfl (hb hby at_126) rfl (flt sg).2.1 (by decide) (by decide) k) ?_
          show Gl p.tables e below s₁ (mkF m 133 #[.val (.int p0), .val (.int p1), .val (.int p2), .val (.long p3), .second, .val (.int (0 : Int32)), .val (.int (0 : Int32)), .val (.int (p0 % (1048576 : Int32))), .val (.int ((p1 &&& (1048575 : Int32)) + (1 : Int32))), .val (.int (p0 % (1048576 : Int32))), .val (.double (FP.ddiv (FP.i2d (p0 % (1048576 : Int32))) (FP.i2d ((p1 &&& (1048575 : Int32)) + (1 : Int32))))), .second, .val (.double (FP.ddiv (FP.i2d (p0 % (1048576 : Int32))) (FP.i2d ((p1 &&& (1048575 : Int32)) + (1 : Int32))))), .second, .unset] []) G
          refine Gl.via (fun _ k => XS.iconst X0.here hx rfl (hb hby at_133) k) ?_
          show Gl p.tables e below s₁ (mkF m 134 #[.val (.int p0), .val (.int p1), .val (.int p2), .val (.long p3), .second, .val (.int (0 : Int32)), .val (.int (0 : Int32)), .val (.int (p0 % (1048576 : Int32))), .val (.int ((p1 &&& (1048575 : Int32)) + (1 : Int32))), .val (.int (p0 % (1048576 : Int32))), .val (.double (FP.ddiv (FP.i2d (p0 % (1048576 : Int32))) (FP.i2d ((p1 &&& (1048575 : Int32)) + (1 : Int32))))), .second, .val (.double (FP.ddiv (FP.i2d (p0 % (1048576 : Int32))) (FP.i2d ((p1 &&& (1048575 : Int32)) + (1 : Int32))))), .second, .unset] [(.int (0 : Int32))]) G
          refine Gl.via (fun _ k => XS.istore X0.here hx rfl (hb hby at_134) rfl (l' := #[.val (.int p0), .val (.int p1), .val (.int p2), .val (.long p3), .second, .val (.int (0 : Int32)), .val (.int (0 : Int32)), .val (.int (p0 % (1048576 : Int32))), .val (.int ((p1 &&& (1048575 : Int32)) + (1 : Int32))), .val (.int (p0 % (1048576 : Int32))), .val (.double (FP.ddiv (FP.i2d (p0 % (1048576 : Int32))) (FP.i2d ((p1 &&& (1048575 : Int32)) + (1 : Int32))))), .second, .val (.double (FP.ddiv (FP.i2d (p0 % (1048576 : Int32))) (FP.i2d ((p1 &&& (1048575 : Int32)) + (1 : Int32))))), .second, .val (.int (0 : Int32))]) rfl k) ?_
          show Gl p.tables e below s₁ (mkF m 136 #[.val (.int p0), .val (.int p1), .val (.int p2), .val (.long p3), .second, .val (.int (0 : Int32)), .val (.int (0 : Int32)), .val (.int (p0 % (1048576 : Int32))), .val (.int ((p1 &&& (1048575 : Int32)) + (1 : Int32))), .val (.int (p0 % (1048576 : Int32))), .val (.double (FP.ddiv (FP.i2d (p0 % (1048576 : Int32))) (FP.i2d ((p1 &&& (1048575 : Int32)) + (1 : Int32))))), .second, .val (.double (FP.ddiv (FP.i2d (p0 % (1048576 : Int32))) (FP.i2d ((p1 &&& (1048575 : Int32)) + (1 : Int32))))), .second, .val (.int (0 : Int32))] []) G
          refine Gl.via (fun _ k => XS.dload X0.here hx rfl (hb hby at_136) rfl k) ?_
          show Gl p.tables e below s₁ (mkF m 138 #[.val (.int p0), .val (.int p1), .val (.int p2), .val (.long p3), .second, .val (.int (0 : Int32)), .val (.int (0 : Int32)), .val (.int (p0 % (1048576 : Int32))), .val (.int ((p1 &&& (1048575 : Int32)) + (1 : Int32))), .val (.int (p0 % (1048576 : Int32))), .val (.double (FP.ddiv (FP.i2d (p0 % (1048576 : Int32))) (FP.i2d ((p1 &&& (1048575 : Int32)) + (1 : Int32))))), .second, .val (.double (FP.ddiv (FP.i2d (p0 % (1048576 : Int32))) (FP.i2d ((p1 &&& (1048575 : Int32)) + (1 : Int32))))), .second, .val (.int (0 : Int32))] [(.double (FP.ddiv (FP.i2d (p0 % (1048576 : Int32))) (FP.i2d ((p1 &&& (1048575 : Int32)) + (1 : Int32)))))]) G
          obtain ⟨_, _, ⟨T3, L3, k3, n3⟩, -, X3, ⟨Lc3, hQ3, l3, y3, z3⟩, st3⟩ := Jvm.LawKit.callS X0 hx (y := (⟨"com/example/kereso/kereso/PageRank", "isDamping", "(D)Z"⟩ : MethodName)) hown (mvT hZ (hw _ (List.mem_of_getElem? (i := 0) rfl))) (mvT hZ (hw _ (List.mem_of_getElem? (i := 1) rfl))) (mvT hZ (hw _ (List.mem_of_getElem? (i := 2) rfl))) (mvT hZ (hw _ (List.mem_of_getElem? (i := 3) rfl))) (by decide) (backOf (W := 0) (dm0b l Z a0 hw [] (FP.ddiv (FP.i2d (p0 % (1048576 : Int32))) (FP.i2d ((p1 &&& (1048575 : Int32)) + (1 : Int32)))) h0 n0 Z0 (own_ge0 hR (own_nz sl)) (own_ge1 hR (own_nl sg))) hZ (hw _ (List.mem_of_getElem? (i := 3) rfl)) (hw _ (List.mem_of_getElem? (i := 2) rfl)) (by decide) (by decide)) (g := (mkF m 138 #[.val (.int p0), .val (.int p1), .val (.int p2), .val (.long p3), .second, .val (.int (0 : Int32)), .val (.int (0 : Int32)), .val (.int (p0 % (1048576 : Int32))), .val (.int ((p1 &&& (1048575 : Int32)) + (1 : Int32))), .val (.int (p0 % (1048576 : Int32))), .val (.double (FP.ddiv (FP.i2d (p0 % (1048576 : Int32))) (FP.i2d ((p1 &&& (1048575 : Int32)) + (1 : Int32))))), .second, .val (.double (FP.ddiv (FP.i2d (p0 % (1048576 : Int32))) (FP.i2d ((p1 &&& (1048575 : Int32)) + (1 : Int32))))), .second, .val (.int (0 : Int32))] [(.double (FP.ddiv (FP.i2d (p0 % (1048576 : Int32))) (FP.i2d ((p1 &&& (1048575 : Int32)) + (1 : Int32)))))])) rfl (by rw [hml]; rfl) (argsL := [(.double (FP.ddiv (FP.i2d (p0 % (1048576 : Int32))) (FP.i2d ((p1 &&& (1048575 : Int32)) + (1 : Int32)))))]) (rest := []) (lenOf pd_0 rfl) rfl (by show 2 * 0 + _ ≤ _; exact Nat.le_of_eq rfl) (hb hby at_138) (fun _ _ => ⟨rfl, e0, (by decide : 0 + 0 ≤ _), (by decide : 0 + 0 ≤ _)⟩)
          dsimp only [Pt.U, Pt.locs, Pt.cells, Pt.slots] at X3 l3 y3 z3 st3 hQ3
          subst l3 y3 z3
          obtain ⟨rfl, N3q, eh3⟩ := hQ3
          have N3_ := Fr.app N0 N3q
          refine Gl.via (fun _ k => st3 _ k) ?_
          show Gl p.tables e below T3 (mkF m 141 #[.val (.int p0), .val (.int p1), .val (.int p2), .val (.long p3), .second, .val (.int (0 : Int32)), .val (.int (0 : Int32)), .val (.int (p0 % (1048576 : Int32))), .val (.int ((p1 &&& (1048575 : Int32)) + (1 : Int32))), .val (.int (p0 % (1048576 : Int32))), .val (.double (FP.ddiv (FP.i2d (p0 % (1048576 : Int32))) (FP.i2d ((p1 &&& (1048575 : Int32)) + (1 : Int32))))), .second, .val (.double (FP.ddiv (FP.i2d (p0 % (1048576 : Int32))) (FP.i2d ((p1 &&& (1048575 : Int32)) + (1 : Int32))))), .second, .val (.int (0 : Int32))] [(.int (0 : Int32))]) G
          refine Gl.via (fun _ k => XS.iload X3.here hx rfl (hb hby at_141) rfl k) ?_
          show Gl p.tables e below T3 (mkF m 143 #[.val (.int p0), .val (.int p1), .val (.int p2), .val (.long p3), .second, .val (.int (0 : Int32)), .val (.int (0 : Int32)), .val (.int (p0 % (1048576 : Int32))), .val (.int ((p1 &&& (1048575 : Int32)) + (1 : Int32))), .val (.int (p0 % (1048576 : Int32))), .val (.double (FP.ddiv (FP.i2d (p0 % (1048576 : Int32))) (FP.i2d ((p1 &&& (1048575 : Int32)) + (1 : Int32))))), .second, .val (.double (FP.ddiv (FP.i2d (p0 % (1048576 : Int32))) (FP.i2d ((p1 &&& (1048575 : Int32)) + (1 : Int32))))), .second, .val (.int (0 : Int32))] [(.int (0 : Int32)), (.int (0 : Int32))]) G
          refine Gl.via (fun _ k => XS.icmpNo X3.here hx rfl (hb hby at_143) rfl (teq (by decide)).2 k) ?_
          show Gl p.tables e below T3 (mkF m 146 #[.val (.int p0), .val (.int p1), .val (.int p2), .val (.long p3), .second, .val (.int (0 : Int32)), .val (.int (0 : Int32)), .val (.int (p0 % (1048576 : Int32))), .val (.int ((p1 &&& (1048575 : Int32)) + (1 : Int32))), .val (.int (p0 % (1048576 : Int32))), .val (.double (FP.ddiv (FP.i2d (p0 % (1048576 : Int32))) (FP.i2d ((p1 &&& (1048575 : Int32)) + (1 : Int32))))), .second, .val (.double (FP.ddiv (FP.i2d (p0 % (1048576 : Int32))) (FP.i2d ((p1 &&& (1048575 : Int32)) + (1 : Int32))))), .second, .val (.int (0 : Int32))] []) G
          refine Gl.via (fun _ k => XS.iconst X3.here hx rfl (hb hby at_146) k) ?_
          show Gl p.tables e below T3 (mkF m 147 #[.val (.int p0), .val (.int p1), .val (.int p2), .val (.long p3), .second, .val (.int (0 : Int32)), .val (.int (0 : Int32)), .val (.int (p0 % (1048576 : Int32))), .val (.int ((p1 &&& (1048575 : Int32)) + (1 : Int32))), .val (.int (p0 % (1048576 : Int32))), .val (.double (FP.ddiv (FP.i2d (p0 % (1048576 : Int32))) (FP.i2d ((p1 &&& (1048575 : Int32)) + (1 : Int32))))), .second, .val (.double (FP.ddiv (FP.i2d (p0 % (1048576 : Int32))) (FP.i2d ((p1 &&& (1048575 : Int32)) + (1 : Int32))))), .second, .val (.int (0 : Int32))] [(.int (1 : Int32))]) G
          refine Gl.via (fun _ k => XS.goto X3.here hx rfl (pc0 := 147) (pc' := 151) rfl (hb hby at_147) (by decide) (by decide) k) ?_
          show Gl p.tables e below T3 (mkF m 151 #[.val (.int p0), .val (.int p1), .val (.int p2), .val (.long p3), .second, .val (.int (0 : Int32)), .val (.int (0 : Int32)), .val (.int (p0 % (1048576 : Int32))), .val (.int ((p1 &&& (1048575 : Int32)) + (1 : Int32))), .val (.int (p0 % (1048576 : Int32))), .val (.double (FP.ddiv (FP.i2d (p0 % (1048576 : Int32))) (FP.i2d ((p1 &&& (1048575 : Int32)) + (1 : Int32))))), .second, .val (.double (FP.ddiv (FP.i2d (p0 % (1048576 : Int32))) (FP.i2d ((p1 &&& (1048575 : Int32)) + (1 : Int32))))), .second, .val (.int (0 : Int32))] [(.int (1 : Int32))]) G
          obtain ⟨fs, hr, hrun, hended, hW, hsame⟩ := X3.leave (v := some (.int (1 : Int32))) (fun h => by rw [Bd.returns] at h; cases h)
          have hq : ∀ L, Fr n0 L → Q_rm0 Z p0 p1 p2 p3 h0 n0 (some (.int (1 : Int32))) T3.heap L := by
            intro L hN
            rw [eh3]
            exact ⟨rfl, hN⟩
          rw [hG]
          exact Gl.fin (retN X3 hx (t := .boolean) Bd.returns (by simp) (hb hby at_151) hr) ⟨_, hrun, hended, _, _, rfl, hq _ N3_, ⟨_, rfl⟩, hW, hsame.mono (by decide) (by decide)⟩
    · refine Gl.via (fun _ k => XS.ifNo X0.here hx rfl (hb hby at_16) rfl ((if0 _ _).trans (feq wf).1) k) ?_
      show Gl p.tables e below s₁ (mkF m 19 #[.val (.int p0), .val (.int p1), .val (.int p2), .val (.long p3), .second, .val (.int (0 : Int32)), .unset, .unset, .unset, .unset, .unset, .unset, .unset, .unset, .unset] []) G
      refine Gl.via (fun _ k => XS.iconst X0.here hx rfl (hb hby at_19) k) ?_
      show Gl p.tables e below s₁ (mkF m 20 #[.val (.int p0), .val (.int p1), .val (.int p2), .val (.long p3), .second, .val (.int (0 : Int32)), .unset, .unset, .unset, .unset, .unset, .unset, .unset, .unset, .unset] [(.int (1 : Int32))]) G
      refine Gl.via (fun _ k => XS.goto X0.here hx rfl (pc0 := 20) (pc' := 24) rfl (hb hby at_20) (by decide) (by decide) k) ?_
      show Gl p.tables e below s₁ (mkF m 24 #[.val (.int p0), .val (.int p1), .val (.int p2), .val (.long p3), .second, .val (.int (0 : Int32)), .unset, .unset, .unset, .unset, .unset, .unset, .unset, .unset, .unset] [(.int (1 : Int32))]) G
      refine Gl.via (fun _ k => XS.istore X0.here hx rfl (hb hby at_24) rfl (l' := #[.val (.int p0), .val (.int p1), .val (.int p2), .val (.long p3), .second, .val (.int (0 : Int32)), .val (.int (1 : Int32)), .unset, .unset, .unset, .unset, .unset, .unset, .unset, .unset]) rfl k) ?_
      show Gl p.tables e below s₁ (mkF m 26 #[.val (.int p0), .val (.int p1), .val (.int p2), .val (.long p3), .second, .val (.int (0 : Int32)), .val (.int (1 : Int32)), .unset, .unset, .unset, .unset, .unset, .unset, .unset, .unset] []) G
      refine Gl.via (fun _ k => XS.iload X0.here hx rfl (hb hby at_26) rfl k) ?_
      show Gl p.tables e below s₁ (mkF m 28 #[.val (.int p0), .val (.int p1), .val (.int p2), .val (.long p3), .second, .val (.int (0 : Int32)), .val (.int (1 : Int32)), .unset, .unset, .unset, .unset, .unset, .unset, .unset, .unset] [(.int (1 : Int32))]) G
      refine Gl.via (fun _ k => XS.ifNo X0.here hx rfl (hb hby at_28) rfl ((if0 _ _).trans (feq (by decide)).1) k) ?_
      show Gl p.tables e below s₁ (mkF m 31 #[.val (.int p0), .val (.int p1), .val (.int p2), .val (.long p3), .second, .val (.int (0 : Int32)), .val (.int (1 : Int32)), .unset, .unset, .unset, .unset, .unset, .unset, .unset, .unset] []) G
      refine Gl.via (fun _ k => XS.lloadN X0.here hx rfl (hb hby at_31) rfl k) ?_
      show Gl p.tables e below s₁ (mkF m 32 #[.val (.int p0), .val (.int p1), .val (.int p2), .val (.long p3), .second, .val (.int (0 : Int32)), .val (.int (1 : Int32)), .unset, .unset, .unset, .unset, .unset, .unset, .unset, .unset] [(.long p3)]) G
      refine Gl.via (fun _ k => XS.l2dS X0.here hx rfl (hb hby at_32) rfl rfl k) ?_
      show Gl p.tables e below s₁ (mkF m 33 #[.val (.int p0), .val (.int p1), .val (.int p2), .val (.long p3), .second, .val (.int (0 : Int32)), .val (.int (1 : Int32)), .unset, .unset, .unset, .unset, .unset, .unset, .unset, .unset] [(.double (FP.l2d p3))]) G
      refine Gl.via (fun _ k => XS.dstore X0.here hx rfl (hb hby at_33) rfl (l' := #[.val (.int p0), .val (.int p1), .val (.int p2), .val (.long p3), .second, .val (.int (0 : Int32)), .val (.int (1 : Int32)), .val (.double (FP.l2d p3)), .second, .unset, .unset, .unset, .unset, .unset, .unset]) rfl k) ?_
      show Gl p.tables e below s₁ (mkF m 35 #[.val (.int p0), .val (.int p1), .val (.int p2), .val (.long p3), .second, .val (.int (0 : Int32)), .val (.int (1 : Int32)), .val (.double (FP.l2d p3)), .second, .unset, .unset, .unset, .unset, .unset, .unset] []) G
      refine Gl.via (fun _ k => XS.lloadN X0.here hx rfl (hb hby at_35) rfl k) ?_
      show Gl p.tables e below s₁ (mkF m 36 #[.val (.int p0), .val (.int p1), .val (.int p2), .val (.long p3), .second, .val (.int (0 : Int32)), .val (.int (1 : Int32)), .val (.double (FP.l2d p3)), .second, .unset, .unset, .unset, .unset, .unset, .unset] [(.long p3)]) G
      refine Gl.via (fun _ k => XS.lconst X0.here hx rfl (hb hby at_36) k) ?_
      show Gl p.tables e below s₁ (mkF m 37 #[.val (.int p0), .val (.int p1), .val (.int p2), .val (.long p3), .second, .val (.int (0 : Int32)), .val (.int (1 : Int32)), .val (.double (FP.l2d p3)), .second, .unset, .unset, .unset, .unset, .unset, .unset] [(.long (0 : Int64)), (.long p3)]) G
      refine Gl.via (fun _ k => XS.lcmp X0.here hx rfl (hb hby at_37) rfl k) ?_
      show Gl p.tables e below s₁ (mkF m 38 #[.val (.int p0), .val (.int p1), .val (.int p2), .val (.long p3), .second, .val (.int (0 : Int32)), .val (.int (1 : Int32)), .val (.double (FP.l2d p3)), .second, .unset, .unset, .unset, .unset, .unset, .unset] [(.int (lcmpW p3 (0 : Int64)))]) G
      by_cases bz : (lcmpW p3 (0 : Int64)) = (0 : Int32)
      · refine Gl.via (fun _ k => XS.ifNo X0.here hx rfl (hb hby at_38) rfl ((if0 _ _).trans (teq bz).2) k) ?_
        show Gl p.tables e below s₁ (mkF m 41 #[.val (.int p0), .val (.int p1), .val (.int p2), .val (.long p3), .second, .val (.int (0 : Int32)), .val (.int (1 : Int32)), .val (.double (FP.l2d p3)), .second, .unset, .unset, .unset, .unset, .unset, .unset] []) G
        refine Gl.via (fun _ k => XS.iconst X0.here hx rfl (hb hby at_41) k) ?_
        show Gl p.tables e below s₁ (mkF m 42 #[.val (.int p0), .val (.int p1), .val (.int p2), .val (.long p3), .second, .val (.int (0 : Int32)), .val (.int (1 : Int32)), .val (.double (FP.l2d p3)), .second, .unset, .unset, .unset, .unset, .unset, .unset] [(.int (1 : Int32))]) G
        refine Gl.via (fun _ k => XS.goto X0.here hx rfl (pc0 := 42) (pc' := 46) rfl (hb hby at_42) (by decide) (by decide) k) ?_
        show Gl p.tables e below s₁ (mkF m 46 #[.val (.int p0), .val (.int p1), .val (.int p2), .val (.long p3), .second, .val (.int (0 : Int32)), .val (.int (1 : Int32)), .val (.double (FP.l2d p3)), .second, .unset, .unset, .unset, .unset, .unset, .unset] [(.int (1 : Int32))]) G
        refine Gl.via (fun _ k => XS.istore X0.here hx rfl (hb hby at_46) rfl (l' := #[.val (.int p0), .val (.int p1), .val (.int p2), .val (.long p3), .second, .val (.int (0 : Int32)), .val (.int (1 : Int32)), .val (.double (FP.l2d p3)), .second, .val (.int (1 : Int32)), .unset, .unset, .unset, .unset, .unset]) rfl k) ?_
        show Gl p.tables e below s₁ (mkF m 48 #[.val (.int p0), .val (.int p1), .val (.int p2), .val (.long p3), .second, .val (.int (0 : Int32)), .val (.int (1 : Int32)), .val (.double (FP.l2d p3)), .second, .val (.int (1 : Int32)), .unset, .unset, .unset, .unset, .unset] []) G
        refine Gl.via (fun _ k => XS.dload X0.here hx rfl (hb hby at_48) rfl k) ?_
        show Gl p.tables e below s₁ (mkF m 50 #[.val (.int p0), .val (.int p1), .val (.int p2), .val (.long p3), .second, .val (.int (0 : Int32)), .val (.int (1 : Int32)), .val (.double (FP.l2d p3)), .second, .val (.int (1 : Int32)), .unset, .unset, .unset, .unset, .unset] [(.double (FP.l2d p3))]) G
        obtain ⟨_, _, ⟨T4, L4, k4, n4⟩, -, X4, ⟨Lc4, hQ4, l4, y4, z4⟩, st4⟩ := Jvm.LawKit.callS X0 hx (y := (⟨"com/example/kereso/kereso/PageRank", "isDamping", "(D)Z"⟩ : MethodName)) hown (mvT hZ (hw _ (List.mem_of_getElem? (i := 0) rfl))) (mvT hZ (hw _ (List.mem_of_getElem? (i := 1) rfl))) (mvT hZ (hw _ (List.mem_of_getElem? (i := 2) rfl))) (mvT hZ (hw _ (List.mem_of_getElem? (i := 3) rfl))) (by decide) (backOf (W := 0) (dm1 l Z a0 hw [] (FP.l2d p3) h0 n0 Z0 (own_big_0 (own_lz bz)).1 (own_big_0 (own_lz bz)).2) hZ (hw _ (List.mem_of_getElem? (i := 3) rfl)) (hw _ (List.mem_of_getElem? (i := 2) rfl)) (by decide) (by decide)) (g := (mkF m 50 #[.val (.int p0), .val (.int p1), .val (.int p2), .val (.long p3), .second, .val (.int (0 : Int32)), .val (.int (1 : Int32)), .val (.double (FP.l2d p3)), .second, .val (.int (1 : Int32)), .unset, .unset, .unset, .unset, .unset] [(.double (FP.l2d p3))])) rfl (by rw [hml]; rfl) (argsL := [(.double (FP.l2d p3))]) (rest := []) (lenOf pd_0 rfl) rfl (by show 2 * 0 + _ ≤ _; exact Nat.le_of_eq rfl) (hb hby at_50) (fun _ _ => ⟨rfl, e0, (by decide : 0 + 0 ≤ _), (by decide : 0 + 0 ≤ _)⟩)
        dsimp only [Pt.U, Pt.locs, Pt.cells, Pt.slots] at X4 l4 y4 z4 st4 hQ4
        subst l4 y4 z4
        obtain ⟨rfl, N4q, eh4⟩ := hQ4
        have N4_ := Fr.app N0 N4q
        refine Gl.via (fun _ k => st4 _ k) ?_
        show Gl p.tables e below T4 (mkF m 53 #[.val (.int p0), .val (.int p1), .val (.int p2), .val (.long p3), .second, .val (.int (0 : Int32)), .val (.int (1 : Int32)), .val (.double (FP.l2d p3)), .second, .val (.int (1 : Int32)), .unset, .unset, .unset, .unset, .unset] [(.int (1 : Int32))]) G
        refine Gl.via (fun _ k => XS.iload X4.here hx rfl (hb hby at_53) rfl k) ?_
        show Gl p.tables e below T4 (mkF m 55 #[.val (.int p0), .val (.int p1), .val (.int p2), .val (.long p3), .second, .val (.int (0 : Int32)), .val (.int (1 : Int32)), .val (.double (FP.l2d p3)), .second, .val (.int (1 : Int32)), .unset, .unset, .unset, .unset, .unset] [(.int (1 : Int32)), (.int (1 : Int32))]) G
        refine Gl.via (fun _ k => XS.icmpNo X4.here hx rfl (hb hby at_55) rfl (teq (by decide)).2 k) ?_
        show Gl p.tables e below T4 (mkF m 58 #[.val (.int p0), .val (.int p1), .val (.int p2), .val (.long p3), .second, .val (.int (0 : Int32)), .val (.int (1 : Int32)), .val (.double (FP.l2d p3)), .second, .val (.int (1 : Int32)), .unset, .unset, .unset, .unset, .unset] []) G
        refine Gl.via (fun _ k => XS.iconst X4.here hx rfl (hb hby at_58) k) ?_
        show Gl p.tables e below T4 (mkF m 59 #[.val (.int p0), .val (.int p1), .val (.int p2), .val (.long p3), .second, .val (.int (0 : Int32)), .val (.int (1 : Int32)), .val (.double (FP.l2d p3)), .second, .val (.int (1 : Int32)), .unset, .unset, .unset, .unset, .unset] [(.int (1 : Int32))]) G
        refine Gl.via (fun _ k => XS.goto X4.here hx rfl (pc0 := 59) (pc' := 63) rfl (hb hby at_59) (by decide) (by decide) k) ?_
        show Gl p.tables e below T4 (mkF m 63 #[.val (.int p0), .val (.int p1), .val (.int p2), .val (.long p3), .second, .val (.int (0 : Int32)), .val (.int (1 : Int32)), .val (.double (FP.l2d p3)), .second, .val (.int (1 : Int32)), .unset, .unset, .unset, .unset, .unset] [(.int (1 : Int32))]) G
        obtain ⟨fs, hr, hrun, hended, hW, hsame⟩ := X4.leave (v := some (.int (1 : Int32))) (fun h => by rw [Bd.returns] at h; cases h)
        have hq : ∀ L, Fr n0 L → Q_rm0 Z p0 p1 p2 p3 h0 n0 (some (.int (1 : Int32))) T4.heap L := by
          intro L hN
          rw [eh4]
          exact ⟨rfl, hN⟩
        rw [hG]
        exact Gl.fin (retN X4 hx (t := .boolean) Bd.returns (by simp) (hb hby at_63) hr) ⟨_, hrun, hended, _, _, rfl, hq _ N4_, ⟨_, rfl⟩, hW, hsame.mono (by decide) (by decide)⟩
      · refine Gl.via (fun _ k => XS.ifYes X0.here hx rfl (pc0 := 38) (pc' := 45) rfl (hb hby at_38) rfl ((if0 _ _).trans (feq bz).2) (by decide) (by decide) k) ?_
        show Gl p.tables e below s₁ (mkF m 45 #[.val (.int p0), .val (.int p1), .val (.int p2), .val (.long p3), .second, .val (.int (0 : Int32)), .val (.int (1 : Int32)), .val (.double (FP.l2d p3)), .second, .unset, .unset, .unset, .unset, .unset, .unset] []) G
        refine Gl.via (fun _ k => XS.iconst X0.here hx rfl (hb hby at_45) k) ?_
        show Gl p.tables e below s₁ (mkF m 46 #[.val (.int p0), .val (.int p1), .val (.int p2), .val (.long p3), .second, .val (.int (0 : Int32)), .val (.int (1 : Int32)), .val (.double (FP.l2d p3)), .second, .unset, .unset, .unset, .unset, .unset, .unset] [(.int (0 : Int32))]) G
        refine Gl.via (fun _ k => XS.istore X0.here hx rfl (hb hby at_46) rfl (l' := #[.val (.int p0), .val (.int p1), .val (.int p2), .val (.long p3), .second, .val (.int (0 : Int32)), .val (.int (1 : Int32)), .val (.double (FP.l2d p3)), .second, .val (.int (0 : Int32)), .unset, .unset, .unset, .unset, .unset]) rfl k) ?_
        show Gl p.tables e below s₁ (mkF m 48 #[.val (.int p0), .val (.int p1), .val (.int p2), .val (.long p3), .second, .val (.int (0 : Int32)), .val (.int (1 : Int32)), .val (.double (FP.l2d p3)), .second, .val (.int (0 : Int32)), .unset, .unset, .unset, .unset, .unset] []) G
        by_cases bn : p3 < (0 : Int64)
        · refine Gl.via (fun _ k => XS.dload X0.here hx rfl (hb hby at_48) rfl k) ?_
          show Gl p.tables e below s₁ (mkF m 50 #[.val (.int p0), .val (.int p1), .val (.int p2), .val (.long p3), .second, .val (.int (0 : Int32)), .val (.int (1 : Int32)), .val (.double (FP.l2d p3)), .second, .val (.int (0 : Int32)), .unset, .unset, .unset, .unset, .unset] [(.double (FP.l2d p3))]) G
          obtain ⟨_, _, ⟨T5, L5, k5, n5⟩, -, X5, ⟨Lc5, hQ5, l5, y5, z5⟩, st5⟩ := Jvm.LawKit.callS X0 hx (y := (⟨"com/example/kereso/kereso/PageRank", "isDamping", "(D)Z"⟩ : MethodName)) hown (mvT hZ (hw _ (List.mem_of_getElem? (i := 0) rfl))) (mvT hZ (hw _ (List.mem_of_getElem? (i := 1) rfl))) (mvT hZ (hw _ (List.mem_of_getElem? (i := 2) rfl))) (mvT hZ (hw _ (List.mem_of_getElem? (i := 3) rfl))) (by decide) (backOf (W := 0) (dm0a l Z a0 hw [] (FP.l2d p3) h0 n0 Z0 (own_big_n (own_ln bn))) hZ (hw _ (List.mem_of_getElem? (i := 3) rfl)) (hw _ (List.mem_of_getElem? (i := 2) rfl)) (by decide) (by decide)) (g := (mkF m 50 #[.val (.int p0), .val (.int p1), .val (.int p2), .val (.long p3), .second, .val (.int (0 : Int32)), .val (.int (1 : Int32)), .val (.double (FP.l2d p3)), .second, .val (.int (0 : Int32)), .unset, .unset, .unset, .unset, .unset] [(.double (FP.l2d p3))])) rfl (by rw [hml]; rfl) (argsL := [(.double (FP.l2d p3))]) (rest := []) (lenOf pd_0 rfl) rfl (by show 2 * 0 + _ ≤ _; exact Nat.le_of_eq rfl) (hb hby at_50) (fun _ _ => ⟨rfl, e0, (by decide : 0 + 0 ≤ _), (by decide : 0 + 0 ≤ _)⟩)
          dsimp only [Pt.U, Pt.locs, Pt.cells, Pt.slots] at X5 l5 y5 z5 st5 hQ5
          subst l5 y5 z5
          obtain ⟨rfl, N5q, eh5⟩ := hQ5
          have N5_ := Fr.app N0 N5q
          refine Gl.via (fun _ k => st5 _ k) ?_
          show Gl p.tables e below T5 (mkF m 53 #[.val (.int p0), .val (.int p1), .val (.int p2), .val (.long p3), .second, .val (.int (0 : Int32)), .val (.int (1 : Int32)), .val (.double (FP.l2d p3)), .second, .val (.int (0 : Int32)), .unset, .unset, .unset, .unset, .unset] [(.int (0 : Int32))]) G
          refine Gl.via (fun _ k => XS.iload X5.here hx rfl (hb hby at_53) rfl k) ?_
          show Gl p.tables e below T5 (mkF m 55 #[.val (.int p0), .val (.int p1), .val (.int p2), .val (.long p3), .second, .val (.int (0 : Int32)), .val (.int (1 : Int32)), .val (.double (FP.l2d p3)), .second, .val (.int (0 : Int32)), .unset, .unset, .unset, .unset, .unset] [(.int (0 : Int32)), (.int (0 : Int32))]) G
          refine Gl.via (fun _ k => XS.icmpNo X5.here hx rfl (hb hby at_55) rfl (teq (by decide)).2 k) ?_
          show Gl p.tables e below T5 (mkF m 58 #[.val (.int p0), .val (.int p1), .val (.int p2), .val (.long p3), .second, .val (.int (0 : Int32)), .val (.int (1 : Int32)), .val (.double (FP.l2d p3)), .second, .val (.int (0 : Int32)), .unset, .unset, .unset, .unset, .unset] []) G
          refine Gl.via (fun _ k => XS.iconst X5.here hx rfl (hb hby at_58) k) ?_
          show Gl p.tables e below T5 (mkF m 59 #[.val (.int p0), .val (.int p1), .val (.int p2), .val (.long p3), .second, .val (.int (0 : Int32)), .val (.int (1 : Int32)), .val (.double (FP.l2d p3)), .second, .val (.int (0 : Int32)), .unset, .unset, .unset, .unset, .unset] [(.int (1 : Int32))]) G
          refine Gl.via (fun _ k => XS.goto X5.here hx rfl (pc0 := 59) (pc' := 63) rfl (hb hby at_59) (by decide) (by decide) k) ?_
          show Gl p.tables e below T5 (mkF m 63 #[.val (.int p0), .val (.int p1), .val (.int p2), .val (.long p3), .second, .val (.int (0 : Int32)), .val (.int (1 : Int32)), .val (.double (FP.l2d p3)), .second, .val (.int (0 : Int32)), .unset, .unset, .unset, .unset, .unset] [(.int (1 : Int32))]) G
          obtain ⟨fs, hr, hrun, hended, hW, hsame⟩ := X5.leave (v := some (.int (1 : Int32))) (fun h => by rw [Bd.returns] at h; cases h)
          have hq : ∀ L, Fr n0 L → Q_rm0 Z p0 p1 p2 p3 h0 n0 (some (.int (1 : Int32))) T5.heap L := by
            intro L hN
            rw [eh5]
            exact ⟨rfl, hN⟩
          rw [hG]
          exact Gl.fin (retN X5 hx (t := .boolean) Bd.returns (by simp) (hb hby at_63) hr) ⟨_, hrun, hended, _, _, rfl, hq _ N5_, ⟨_, rfl⟩, hW, hsame.mono (by decide) (by decide)⟩
        · refine Gl.via (fun _ k => XS.dload X0.here hx rfl (hb hby at_48) rfl k) ?_
          show Gl p.tables e below s₁ (mkF m 50 #[.val (.int p0), .val (.int p1), .val (.int p2), .val (.long p3), .second, .val (.int (0 : Int32)), .val (.int (1 : Int32)), .val (.double (FP.l2d p3)), .second, .val (.int (0 : Int32)), .unset, .unset, .unset, .unset, .unset] [(.double (FP.l2d p3))]) G
          obtain ⟨_, _, ⟨T6, L6, k6, n6⟩, -, X6, ⟨Lc6, hQ6, l6, y6, z6⟩, st6⟩ := Jvm.LawKit.callS X0 hx (y := (⟨"com/example/kereso/kereso/PageRank", "isDamping", "(D)Z"⟩ : MethodName)) hown (mvT hZ (hw _ (List.mem_of_getElem? (i := 0) rfl))) (mvT hZ (hw _ (List.mem_of_getElem? (i := 1) rfl))) (mvT hZ (hw _ (List.mem_of_getElem? (i := 2) rfl))) (mvT hZ (hw _ (List.mem_of_getElem? (i := 3) rfl))) (by decide) (backOf (W := 0) (dm0b l Z a0 hw [] (FP.l2d p3) h0 n0 Z0 (own_big_p (own_lp bn (own_lnz bz))).1 (own_big_p (own_lp bn (own_lnz bz))).2) hZ (hw _ (List.mem_of_getElem? (i := 3) rfl)) (hw _ (List.mem_of_getElem? (i := 2) rfl)) (by decide) (by decide)) (g := (mkF m 50 #[.val (.int p0), .val (.int p1), .val (.int p2), .val (.long p3), .second, .val (.int (0 : Int32)), .val (.int (1 : Int32)), .val (.double (FP.l2d p3)), .second, .val (.int (0 : Int32)), .unset, .unset, .unset, .unset, .unset] [(.double (FP.l2d p3))])) rfl (by rw [hml]; rfl) (argsL := [(.double (FP.l2d p3))]) (rest := []) (lenOf pd_0 rfl) rfl (by show 2 * 0 + _ ≤ _; exact Nat.le_of_eq rfl) (hb hby at_50) (fun _ _ => ⟨rfl, e0, (by decide : 0 + 0 ≤ _), (by decide : 0 + 0 ≤ _)⟩)
          dsimp only [Pt.U, Pt.locs, Pt.cells, Pt.slots] at X6 l6 y6 z6 st6 hQ6
          subst l6 y6 z6
          obtain ⟨rfl, N6q, eh6⟩ := hQ6
          have N6_ := Fr.app N0 N6q
          refine Gl.via (fun _ k => st6 _ k) ?_
          show Gl p.tables e below T6 (mkF m 53 #[.val (.int p0), .val (.int p1), .val (.int p2), .val (.long p3), .second, .val (.int (0 : Int32)), .val (.int (1 : Int32)), .val (.double (FP.l2d p3)), .second, .val (.int (0 : Int32)), .unset, .unset, .unset, .unset, .unset] [(.int (0 : Int32))]) G
          refine Gl.via (fun _ k => XS.iload X6.here hx rfl (hb hby at_53) rfl k) ?_
          show Gl p.tables e below T6 (mkF m 55 #[.val (.int p0), .val (.int p1), .val (.int p2), .val (.long p3), .second, .val (.int (0 : Int32)), .val (.int (1 : Int32)), .val (.double (FP.l2d p3)), .second, .val (.int (0 : Int32)), .unset, .unset, .unset, .unset, .unset] [(.int (0 : Int32)), (.int (0 : Int32))]) G
          refine Gl.via (fun _ k => XS.icmpNo X6.here hx rfl (hb hby at_55) rfl (teq (by decide)).2 k) ?_
          show Gl p.tables e below T6 (mkF m 58 #[.val (.int p0), .val (.int p1), .val (.int p2), .val (.long p3), .second, .val (.int (0 : Int32)), .val (.int (1 : Int32)), .val (.double (FP.l2d p3)), .second, .val (.int (0 : Int32)), .unset, .unset, .unset, .unset, .unset] []) G
          refine Gl.via (fun _ k => XS.iconst X6.here hx rfl (hb hby at_58) k) ?_
          show Gl p.tables e below T6 (mkF m 59 #[.val (.int p0), .val (.int p1), .val (.int p2), .val (.long p3), .second, .val (.int (0 : Int32)), .val (.int (1 : Int32)), .val (.double (FP.l2d p3)), .second, .val (.int (0 : Int32)), .unset, .unset, .unset, .unset, .unset] [(.int (1 : Int32))]) G
          refine Gl.via (fun _ k => XS.goto X6.here hx rfl (pc0 := 59) (pc' := 63) rfl (hb hby at_59) (by decide) (by decide) k) ?_
          show Gl p.tables e below T6 (mkF m 63 #[.val (.int p0), .val (.int p1), .val (.int p2), .val (.long p3), .second, .val (.int (0 : Int32)), .val (.int (1 : Int32)), .val (.double (FP.l2d p3)), .second, .val (.int (0 : Int32)), .unset, .unset, .unset, .unset, .unset] [(.int (1 : Int32))]) G
          obtain ⟨fs, hr, hrun, hended, hW, hsame⟩ := X6.leave (v := some (.int (1 : Int32))) (fun h => by rw [Bd.returns] at h; cases h)
          have hq : ∀ L, Fr n0 L → Q_rm0 Z p0 p1 p2 p3 h0 n0 (some (.int (1 : Int32))) T6.heap L := by
            intro L hN
            rw [eh6]
            exact ⟨rfl, hN⟩
          rw [hG]
          exact Gl.fin (retN X6 hx (t := .boolean) Bd.returns (by simp) (hb hby at_63) hr) ⟨_, hrun, hended, _, _, rfl, hq _ N6_, ⟨_, rfl⟩, hW, hsame.mono (by decide) (by decide)⟩
  · refine Gl.via (fun _ k => XS.ifNo X0.here hx rfl (hb hby at_3) rfl ((if0 _ _).trans (feq nf).1) k) ?_
    show Gl p.tables e below s₁ (mkF m 6 #[.val (.int p0), .val (.int p1), .val (.int p2), .val (.long p3), .second, .unset, .unset, .unset, .unset, .unset, .unset, .unset, .unset, .unset, .unset] []) G
    refine Gl.via (fun _ k => XS.iconst X0.here hx rfl (hb hby at_6) k) ?_
    show Gl p.tables e below s₁ (mkF m 7 #[.val (.int p0), .val (.int p1), .val (.int p2), .val (.long p3), .second, .unset, .unset, .unset, .unset, .unset, .unset, .unset, .unset, .unset, .unset] [(.int (1 : Int32))]) G
    refine Gl.via (fun _ k => XS.goto X0.here hx rfl (pc0 := 7) (pc' := 11) rfl (hb hby at_7) (by decide) (by decide) k) ?_
    show Gl p.tables e below s₁ (mkF m 11 #[.val (.int p0), .val (.int p1), .val (.int p2), .val (.long p3), .second, .unset, .unset, .unset, .unset, .unset, .unset, .unset, .unset, .unset, .unset] [(.int (1 : Int32))]) G
    refine Gl.via (fun _ k => XS.istore X0.here hx rfl (hb hby at_11) rfl (l' := #[.val (.int p0), .val (.int p1), .val (.int p2), .val (.long p3), .second, .val (.int (1 : Int32)), .unset, .unset, .unset, .unset, .unset, .unset, .unset, .unset, .unset]) rfl k) ?_
    show Gl p.tables e below s₁ (mkF m 13 #[.val (.int p0), .val (.int p1), .val (.int p2), .val (.long p3), .second, .val (.int (1 : Int32)), .unset, .unset, .unset, .unset, .unset, .unset, .unset, .unset, .unset] []) G
    refine Gl.via (fun _ k => XS.iloadN X0.here hx rfl (hb hby at_13) rfl k) ?_
    show Gl p.tables e below s₁ (mkF m 14 #[.val (.int p0), .val (.int p1), .val (.int p2), .val (.long p3), .second, .val (.int (1 : Int32)), .unset, .unset, .unset, .unset, .unset, .unset, .unset, .unset, .unset] [(.int p2)]) G
    refine Gl.via (fun _ k => XS.iconst X0.here hx rfl (hb hby at_14) k) ?_
    show Gl p.tables e below s₁ (mkF m 15 #[.val (.int p0), .val (.int p1), .val (.int p2), .val (.long p3), .second, .val (.int (1 : Int32)), .unset, .unset, .unset, .unset, .unset, .unset, .unset, .unset, .unset] [(.int (2 : Int32)), (.int p2)]) G
    refine Gl.via (fun _ k => XS.iand X0.here hx rfl (hb hby at_15) rfl k) ?_
    show Gl p.tables e below s₁ (mkF m 16 #[.val (.int p0), .val (.int p1), .val (.int p2), .val (.long p3), .second, .val (.int (1 : Int32)), .unset, .unset, .unset, .unset, .unset, .unset, .unset, .unset, .unset] [(.int (p2 &&& (2 : Int32)))]) G
    by_cases wf : (p2 &&& (2 : Int32)) = (0 : Int32)
    · refine Gl.via (fun _ k => XS.ifYes X0.here hx rfl (pc0 := 16) (pc' := 23) rfl (hb hby at_16) rfl ((if0 _ _).trans (teq wf).1) (by decide) (by decide) k) ?_
      show Gl p.tables e below s₁ (mkF m 23 #[.val (.int p0), .val (.int p1), .val (.int p2), .val (.long p3), .second, .val (.int (1 : Int32)), .unset, .unset, .unset, .unset, .unset, .unset, .unset, .unset, .unset] []) G
      refine Gl.via (fun _ k => XS.iconst X0.here hx rfl (hb hby at_23) k) ?_
      show Gl p.tables e below s₁ (mkF m 24 #[.val (.int p0), .val (.int p1), .val (.int p2), .val (.long p3), .second, .val (.int (1 : Int32)), .unset, .unset, .unset, .unset, .unset, .unset, .unset, .unset, .unset] [(.int (0 : Int32))]) G
      refine Gl.via (fun _ k => XS.istore X0.here hx rfl (hb hby at_24) rfl (l' := #[.val (.int p0), .val (.int p1), .val (.int p2), .val (.long p3), .second, .val (.int (1 : Int32)), .val (.int (0 : Int32)), .unset, .unset, .unset, .unset, .unset, .unset, .unset, .unset]) rfl k) ?_
      show Gl p.tables e below s₁ (mkF m 26 #[.val (.int p0), .val (.int p1), .val (.int p2), .val (.long p3), .second, .val (.int (1 : Int32)), .val (.int (0 : Int32)), .unset, .unset, .unset, .unset, .unset, .unset, .unset, .unset] []) G
      refine Gl.via (fun _ k => XS.iload X0.here hx rfl (hb hby at_26) rfl k) ?_
      show Gl p.tables e below s₁ (mkF m 28 #[.val (.int p0), .val (.int p1), .val (.int p2), .val (.long p3), .second, .val (.int (1 : Int32)), .val (.int (0 : Int32)), .unset, .unset, .unset, .unset, .unset, .unset, .unset, .unset] [(.int (0 : Int32))]) G
      refine Gl.via (fun _ k => XS.ifYes X0.here hx rfl (pc0 := 28) (pc' := 64) rfl (hb hby at_28) rfl ((if0 _ _).trans (teq (by decide)).1) (by decide) (by decide) k) ?_
      show Gl p.tables e below s₁ (mkF m 64 #[.val (.int p0), .val (.int p1), .val (.int p2), .val (.long p3), .second, .val (.int (1 : Int32)), .val (.int (0 : Int32)), .unset, .unset, .unset, .unset, .unset, .unset, .unset, .unset] []) G
      refine Gl.via (fun _ k => XS.iloadN X0.here hx rfl (hb hby at_64) rfl k) ?_
      show Gl p.tables e below s₁ (mkF m 65 #[.val (.int p0), .val (.int p1), .val (.int p2), .val (.long p3), .second, .val (.int (1 : Int32)), .val (.int (0 : Int32)), .unset, .unset, .unset, .unset, .unset, .unset, .unset, .unset] [(.int p0)]) G
      refine Gl.via (fun _ k => X0.ldcInt hx hown (mvT hZ (hw _ (List.mem_of_getElem? (i := 4) rfl))) (g := (mkF m 65 #[.val (.int p0), .val (.int p1), .val (.int p2), .val (.long p3), .second, .val (.int (1 : Int32)), .val (.int (0 : Int32)), .unset, .unset, .unset, .unset, .unset, .unset, .unset, .unset] [(.int p0)])) rfl (hb hby at_65) _ k) ?_
      show Gl p.tables e below s₁ (mkF m 67 #[.val (.int p0), .val (.int p1), .val (.int p2), .val (.long p3), .second, .val (.int (1 : Int32)), .val (.int (0 : Int32)), .unset, .unset, .unset, .unset, .unset, .unset, .unset, .unset] [(.int (1048576 : Int32)), (.int p0)]) G
      refine Gl.via (fun _ k => XS.irem X0.here hx rfl (hb hby at_67) rfl (by decide) k) ?_
      show Gl p.tables e below s₁ (mkF m 68 #[.val (.int p0), .val (.int p1), .val (.int p2), .val (.long p3), .second, .val (.int (1 : Int32)), .val (.int (0 : Int32)), .unset, .unset, .unset, .unset, .unset, .unset, .unset, .unset] [(.int (p0 - (p0 / (1048576 : Int32)) * (1048576 : Int32)))]) G
      rw [show (p0 - (p0 / (1048576 : Int32)) * (1048576 : Int32)) = (p0 % (1048576 : Int32)) from (irem_eq_mod _ _)]
      show Gl p.tables e below s₁ (mkF m 68 #[.val (.int p0), .val (.int p1), .val (.int p2), .val (.long p3), .second, .val (.int (1 : Int32)), .val (.int (0 : Int32)), .unset, .unset, .unset, .unset, .unset, .unset, .unset, .unset] [(.int (p0 % (1048576 : Int32)))]) G
      refine Gl.via (fun _ k => XS.istore X0.here hx rfl (hb hby at_68) rfl (l' := #[.val (.int p0), .val (.int p1), .val (.int p2), .val (.long p3), .second, .val (.int (1 : Int32)), .val (.int (0 : Int32)), .val (.int (p0 % (1048576 : Int32))), .unset, .unset, .unset, .unset, .unset, .unset, .unset]) rfl k) ?_
      show Gl p.tables e below s₁ (mkF m 70 #[.val (.int p0), .val (.int p1), .val (.int p2), .val (.long p3), .second, .val (.int (1 : Int32)), .val (.int (0 : Int32)), .val (.int (p0 % (1048576 : Int32))), .unset, .unset, .unset, .unset, .unset, .unset, .unset] []) G
      refine Gl.via (fun _ k => XS.iloadN X0.here hx rfl (hb hby at_70) rfl k) ?_
      show Gl p.tables e below s₁ (mkF m 71 #[.val (.int p0), .val (.int p1), .val (.int p2), .val (.long p3), .second, .val (.int (1 : Int32)), .val (.int (0 : Int32)), .val (.int (p0 % (1048576 : Int32))), .unset, .unset, .unset, .unset, .unset, .unset, .unset] [(.int p1)]) G
      refine Gl.via (fun _ k => X0.ldcInt hx hown (mvT hZ (hw _ (List.mem_of_getElem? (i := 5) rfl))) (g := (mkF m 71 #[.val (.int p0), .val (.int p1), .val (.int p2), .val (.long p3), .second, .val (.int (1 : Int32)), .val (.int (0 : Int32)), .val (.int (p0 % (1048576 : Int32))), .unset, .unset, .unset, .unset, .unset, .unset, .unset] [(.int p1)])) rfl (hb hby at_71) _ k) ?_
      show Gl p.tables e below s₁ (mkF m 73 #[.val (.int p0), .val (.int p1), .val (.int p2), .val (.long p3), .second, .val (.int (1 : Int32)), .val (.int (0 : Int32)), .val (.int (p0 % (1048576 : Int32))), .unset, .unset, .unset, .unset, .unset, .unset, .unset] [(.int (1048575 : Int32)), (.int p1)]) G
      refine Gl.via (fun _ k => XS.iand X0.here hx rfl (hb hby at_73) rfl k) ?_
      show Gl p.tables e below s₁ (mkF m 74 #[.val (.int p0), .val (.int p1), .val (.int p2), .val (.long p3), .second, .val (.int (1 : Int32)), .val (.int (0 : Int32)), .val (.int (p0 % (1048576 : Int32))), .unset, .unset, .unset, .unset, .unset, .unset, .unset] [(.int (p1 &&& (1048575 : Int32)))]) G
      refine Gl.via (fun _ k => XS.iconst X0.here hx rfl (hb hby at_74) k) ?_
      show Gl p.tables e below s₁ (mkF m 75 #[.val (.int p0), .val (.int p1), .val (.int p2), .val (.long p3), .second, .val (.int (1 : Int32)), .val (.int (0 : Int32)), .val (.int (p0 % (1048576 : Int32))), .unset, .unset, .unset, .unset, .unset, .unset, .unset] [(.int (1 : Int32)), (.int (p1 &&& (1048575 : Int32)))]) G
      refine Gl.via (fun _ k => XS.iadd X0.here hx rfl (hb hby at_75) rfl k) ?_
      show Gl p.tables e below s₁ (mkF m 76 #[.val (.int p0), .val (.int p1), .val (.int p2), .val (.long p3), .second, .val (.int (1 : Int32)), .val (.int (0 : Int32)), .val (.int (p0 % (1048576 : Int32))), .unset, .unset, .unset, .unset, .unset, .unset, .unset] [(.int ((p1 &&& (1048575 : Int32)) + (1 : Int32)))]) G
      refine Gl.via (fun _ k => XS.istore X0.here hx rfl (hb hby at_76) rfl (l' := #[.val (.int p0), .val (.int p1), .val (.int p2), .val (.long p3), .second, .val (.int (1 : Int32)), .val (.int (0 : Int32)), .val (.int (p0 % (1048576 : Int32))), .val (.int ((p1 &&& (1048575 : Int32)) + (1 : Int32))), .unset, .unset, .unset, .unset, .unset, .unset]) rfl k) ?_
      show Gl p.tables e below s₁ (mkF m 78 #[.val (.int p0), .val (.int p1), .val (.int p2), .val (.long p3), .second, .val (.int (1 : Int32)), .val (.int (0 : Int32)), .val (.int (p0 % (1048576 : Int32))), .val (.int ((p1 &&& (1048575 : Int32)) + (1 : Int32))), .unset, .unset, .unset, .unset, .unset, .unset] []) G
      refine Gl.via (fun _ k => XS.iload X0.here hx rfl (hb hby at_78) rfl k) ?_
      show Gl p.tables e below s₁ (mkF m 80 #[.val (.int p0), .val (.int p1), .val (.int p2), .val (.long p3), .second, .val (.int (1 : Int32)), .val (.int (0 : Int32)), .val (.int (p0 % (1048576 : Int32))), .val (.int ((p1 &&& (1048575 : Int32)) + (1 : Int32))), .unset, .unset, .unset, .unset, .unset, .unset] [(.int (1 : Int32))]) G
      refine Gl.via (fun _ k => XS.ifNo X0.here hx rfl (hb hby at_80) rfl ((if0 _ _).trans (feq (by decide)).1) k) ?_
      show Gl p.tables e below s₁ (mkF m 83 #[.val (.int p0), .val (.int p1), .val (.int p2), .val (.long p3), .second, .val (.int (1 : Int32)), .val (.int (0 : Int32)), .val (.int (p0 % (1048576 : Int32))), .val (.int ((p1 &&& (1048575 : Int32)) + (1 : Int32))), .unset, .unset, .unset, .unset, .unset, .unset] []) G
      refine Gl.via (fun _ k => XS.iload X0.here hx rfl (hb hby at_83) rfl k) ?_
      show Gl p.tables e below s₁ (mkF m 85 #[.val (.int p0), .val (.int p1), .val (.int p2), .val (.long p3), .second, .val (.int (1 : Int32)), .val (.int (0 : Int32)), .val (.int (p0 % (1048576 : Int32))), .val (.int ((p1 &&& (1048575 : Int32)) + (1 : Int32))), .unset, .unset, .unset, .unset, .unset, .unset] [(.int (p0 % (1048576 : Int32)))]) G
      refine Gl.via (fun _ k => XS.ineg X0.here hx rfl (hb hby at_85) rfl k) ?_
      show Gl p.tables e below s₁ (mkF m 86 #[.val (.int p0), .val (.int p1), .val (.int p2), .val (.long p3), .second, .val (.int (1 : Int32)), .val (.int (0 : Int32)), .val (.int (p0 % (1048576 : Int32))), .val (.int ((p1 &&& (1048575 : Int32)) + (1 : Int32))), .unset, .unset, .unset, .unset, .unset, .unset] [(.int (-(p0 % (1048576 : Int32))))]) G
      refine Gl.via (fun _ k => XS.goto X0.here hx rfl (pc0 := 86) (pc' := 91) rfl (hb hby at_86) (by decide) (by decide) k) ?_
      show Gl p.tables e below s₁ (mkF m 91 #[.val (.int p0), .val (.int p1), .val (.int p2), .val (.long p3), .second, .val (.int (1 : Int32)), .val (.int (0 : Int32)), .val (.int (p0 % (1048576 : Int32))), .val (.int ((p1 &&& (1048575 : Int32)) + (1 : Int32))), .unset, .unset, .unset, .unset, .unset, .unset] [(.int (-(p0 % (1048576 : Int32))))]) G
      refine Gl.via (fun _ k => XS.istore X0.here hx rfl (hb hby at_91) rfl (l' := #[.val (.int p0), .val (.int p1), .val (.int p2), .val (.long p3), .second, .val (.int (1 : Int32)), .val (.int (0 : Int32)), .val (.int (p0 % (1048576 : Int32))), .val (.int ((p1 &&& (1048575 : Int32)) + (1 : Int32))), .val (.int (-(p0 % (1048576 : Int32)))), .unset, .unset, .unset, .unset, .unset]) rfl k) ?_
      show Gl p.tables e below s₁ (mkF m 93 #[.val (.int p0), .val (.int p1), .val (.int p2), .val (.long p3), .second, .val (.int (1 : Int32)), .val (.int (0 : Int32)), .val (.int (p0 % (1048576 : Int32))), .val (.int ((p1 &&& (1048575 : Int32)) + (1 : Int32))), .val (.int (-(p0 % (1048576 : Int32)))), .unset, .unset, .unset, .unset, .unset] []) G
      refine Gl.via (fun _ k => XS.iload X0.here hx rfl (hb hby at_93) rfl k) ?_
      show Gl p.tables e below s₁ (mkF m 95 #[.val (.int p0), .val (.int p1), .val (.int p2), .val (.long p3), .second, .val (.int (1 : Int32)), .val (.int (0 : Int32)), .val (.int (p0 % (1048576 : Int32))), .val (.int ((p1 &&& (1048575 : Int32)) + (1 : Int32))), .val (.int (-(p0 % (1048576 : Int32)))), .unset, .unset, .unset, .unset, .unset] [(.int (p0 % (1048576 : Int32)))]) G
      refine Gl.via (fun _ k => XS.i2dS X0.here hx rfl (hb hby at_95) rfl rfl k) ?_
      show Gl p.tables e below s₁ (mkF m 96 #[.val (.int p0), .val (.int p1), .val (.int p2), .val (.long p3), .second, .val (.int (1 : Int32)), .val (.int (0 : Int32)), .val (.int (p0 % (1048576 : Int32))), .val (.int ((p1 &&& (1048575 : Int32)) + (1 : Int32))), .val (.int (-(p0 % (1048576 : Int32)))), .unset, .unset, .unset, .unset, .unset] [(.double (FP.i2d (p0 % (1048576 : Int32))))]) G
      refine Gl.via (fun _ k => XS.iload X0.here hx rfl (hb hby at_96) rfl k) ?_
      show Gl p.tables e below s₁ (mkF m 98 #[.val (.int p0), .val (.int p1), .val (.int p2), .val (.long p3), .second, .val (.int (1 : Int32)), .val (.int (0 : Int32)), .val (.int (p0 % (1048576 : Int32))), .val (.int ((p1 &&& (1048575 : Int32)) + (1 : Int32))), .val (.int (-(p0 % (1048576 : Int32)))), .unset, .unset, .unset, .unset, .unset] [(.int ((p1 &&& (1048575 : Int32)) + (1 : Int32))), (.double (FP.i2d (p0 % (1048576 : Int32))))]) G
      refine Gl.via (fun _ k => XS.i2dS X0.here hx rfl (hb hby at_98) rfl rfl k) ?_
      show Gl p.tables e below s₁ (mkF m 99 #[.val (.int p0), .val (.int p1), .val (.int p2), .val (.long p3), .second, .val (.int (1 : Int32)), .val (.int (0 : Int32)), .val (.int (p0 % (1048576 : Int32))), .val (.int ((p1 &&& (1048575 : Int32)) + (1 : Int32))), .val (.int (-(p0 % (1048576 : Int32)))), .unset, .unset, .unset, .unset, .unset] [(.double (FP.i2d ((p1 &&& (1048575 : Int32)) + (1 : Int32)))), (.double (FP.i2d (p0 % (1048576 : Int32))))]) G
      refine Gl.via (fun _ k => XS.ddivS X0.here hx rfl (hb hby at_99) rfl (own_div_ok (by omega)) rfl k) ?_
      show Gl p.tables e below s₁ (mkF m 100 #[.val (.int p0), .val (.int p1), .val (.int p2), .val (.long p3), .second, .val (.int (1 : Int32)), .val (.int (0 : Int32)), .val (.int (p0 % (1048576 : Int32))), .val (.int ((p1 &&& (1048575 : Int32)) + (1 : Int32))), .val (.int (-(p0 % (1048576 : Int32)))), .unset, .unset, .unset, .unset, .unset] [(.double (FP.ddiv (FP.i2d (p0 % (1048576 : Int32))) (FP.i2d ((p1 &&& (1048575 : Int32)) + (1 : Int32)))))]) G
      refine Gl.via (fun _ k => XS.dstore X0.here hx rfl (hb hby at_100) rfl (l' := #[.val (.int p0), .val (.int p1), .val (.int p2), .val (.long p3), .second, .val (.int (1 : Int32)), .val (.int (0 : Int32)), .val (.int (p0 % (1048576 : Int32))), .val (.int ((p1 &&& (1048575 : Int32)) + (1 : Int32))), .val (.int (-(p0 % (1048576 : Int32)))), .val (.double (FP.ddiv (FP.i2d (p0 % (1048576 : Int32))) (FP.i2d ((p1 &&& (1048575 : Int32)) + (1 : Int32))))), .second, .unset, .unset, .unset]) rfl k) ?_
      show Gl p.tables e below s₁ (mkF m 102 #[.val (.int p0), .val (.int p1), .val (.int p2), .val (.long p3), .second, .val (.int (1 : Int32)), .val (.int (0 : Int32)), .val (.int (p0 % (1048576 : Int32))), .val (.int ((p1 &&& (1048575 : Int32)) + (1 : Int32))), .val (.int (-(p0 % (1048576 : Int32)))), .val (.double (FP.ddiv (FP.i2d (p0 % (1048576 : Int32))) (FP.i2d ((p1 &&& (1048575 : Int32)) + (1 : Int32))))), .second, .unset, .unset, .unset] []) G
      refine Gl.via (fun _ k => XS.iload X0.here hx rfl (hb hby at_102) rfl k) ?_
      show Gl p.tables e below s₁ (mkF m 104 #[.val (.int p0), .val (.int p1), .val (.int p2), .val (.long p3), .second, .val (.int (1 : Int32)), .val (.int (0 : Int32)), .val (.int (p0 % (1048576 : Int32))), .val (.int ((p1 &&& (1048575 : Int32)) + (1 : Int32))), .val (.int (-(p0 % (1048576 : Int32)))), .val (.double (FP.ddiv (FP.i2d (p0 % (1048576 : Int32))) (FP.i2d ((p1 &&& (1048575 : Int32)) + (1 : Int32))))), .second, .unset, .unset, .unset] [(.int (1 : Int32))]) G
      refine Gl.via (fun _ k => XS.ifNo X0.here hx rfl (hb hby at_104) rfl ((if0 _ _).trans (feq (by decide)).1) k) ?_
      show Gl p.tables e below s₁ (mkF m 107 #[.val (.int p0), .val (.int p1), .val (.int p2), .val (.long p3), .second, .val (.int (1 : Int32)), .val (.int (0 : Int32)), .val (.int (p0 % (1048576 : Int32))), .val (.int ((p1 &&& (1048575 : Int32)) + (1 : Int32))), .val (.int (-(p0 % (1048576 : Int32)))), .val (.double (FP.ddiv (FP.i2d (p0 % (1048576 : Int32))) (FP.i2d ((p1 &&& (1048575 : Int32)) + (1 : Int32))))), .second, .unset, .unset, .unset] []) G
      refine Gl.via (fun _ k => XS.dload X0.here hx rfl (hb hby at_107) rfl k) ?_
      show Gl p.tables e below s₁ (mkF m 109 #[.val (.int p0), .val (.int p1), .val (.int p2), .val (.long p3), .second, .val (.int (1 : Int32)), .val (.int (0 : Int32)), .val (.int (p0 % (1048576 : Int32))), .val (.int ((p1 &&& (1048575 : Int32)) + (1 : Int32))), .val (.int (-(p0 % (1048576 : Int32)))), .val (.double (FP.ddiv (FP.i2d (p0 % (1048576 : Int32))) (FP.i2d ((p1 &&& (1048575 : Int32)) + (1 : Int32))))), .second, .unset, .unset, .unset] [(.double (FP.ddiv (FP.i2d (p0 % (1048576 : Int32))) (FP.i2d ((p1 &&& (1048575 : Int32)) + (1 : Int32)))))]) G
      refine Gl.via (fun _ k => XS.dnegS X0.here hx rfl (hb hby at_109) rfl rfl k) ?_
      show Gl p.tables e below s₁ (mkF m 110 #[.val (.int p0), .val (.int p1), .val (.int p2), .val (.long p3), .second, .val (.int (1 : Int32)), .val (.int (0 : Int32)), .val (.int (p0 % (1048576 : Int32))), .val (.int ((p1 &&& (1048575 : Int32)) + (1 : Int32))), .val (.int (-(p0 % (1048576 : Int32)))), .val (.double (FP.ddiv (FP.i2d (p0 % (1048576 : Int32))) (FP.i2d ((p1 &&& (1048575 : Int32)) + (1 : Int32))))), .second, .unset, .unset, .unset] [(.double (FP.dneg (FP.ddiv (FP.i2d (p0 % (1048576 : Int32))) (FP.i2d ((p1 &&& (1048575 : Int32)) + (1 : Int32))))))]) G
      refine Gl.via (fun _ k => XS.goto X0.here hx rfl (pc0 := 110) (pc' := 115) rfl (hb hby at_110) (by decide) (by decide) k) ?_
      show Gl p.tables e below s₁ (mkF m 115 #[.val (.int p0), .val (.int p1), .val (.int p2), .val (.long p3), .second, .val (.int (1 : Int32)), .val (.int (0 : Int32)), .val (.int (p0 % (1048576 : Int32))), .val (.int ((p1 &&& (1048575 : Int32)) + (1 : Int32))), .val (.int (-(p0 % (1048576 : Int32)))), .val (.double (FP.ddiv (FP.i2d (p0 % (1048576 : Int32))) (FP.i2d ((p1 &&& (1048575 : Int32)) + (1 : Int32))))), .second, .unset, .unset, .unset] [(.double (FP.dneg (FP.ddiv (FP.i2d (p0 % (1048576 : Int32))) (FP.i2d ((p1 &&& (1048575 : Int32)) + (1 : Int32))))))]) G
      refine Gl.via (fun _ k => XS.dstore X0.here hx rfl (hb hby at_115) rfl (l' := #[.val (.int p0), .val (.int p1), .val (.int p2), .val (.long p3), .second, .val (.int (1 : Int32)), .val (.int (0 : Int32)), .val (.int (p0 % (1048576 : Int32))), .val (.int ((p1 &&& (1048575 : Int32)) + (1 : Int32))), .val (.int (-(p0 % (1048576 : Int32)))), .val (.double (FP.ddiv (FP.i2d (p0 % (1048576 : Int32))) (FP.i2d ((p1 &&& (1048575 : Int32)) + (1 : Int32))))), .second, .val (.double (FP.dneg (FP.ddiv (FP.i2d (p0 % (1048576 : Int32))) (FP.i2d ((p1 &&& (1048575 : Int32)) + (1 : Int32)))))), .second, .unset]) rfl k) ?_
      show Gl p.tables e below s₁ (mkF m 117 #[.val (.int p0), .val (.int p1), .val (.int p2), .val (.long p3), .second, .val (.int (1 : Int32)), .val (.int (0 : Int32)), .val (.int (p0 % (1048576 : Int32))), .val (.int ((p1 &&& (1048575 : Int32)) + (1 : Int32))), .val (.int (-(p0 % (1048576 : Int32)))), .val (.double (FP.ddiv (FP.i2d (p0 % (1048576 : Int32))) (FP.i2d ((p1 &&& (1048575 : Int32)) + (1 : Int32))))), .second, .val (.double (FP.dneg (FP.ddiv (FP.i2d (p0 % (1048576 : Int32))) (FP.i2d ((p1 &&& (1048575 : Int32)) + (1 : Int32)))))), .second, .unset] []) G
      have hR := own_Rn (own_i2d (p0 % (1048576 : Int32))) (own_i2d ((p1 &&& (1048575 : Int32)) + (1 : Int32))) (by omega) (by omega)
      rw [← own_neg (a := (p0 % (1048576 : Int32))) (by omega)] at hR
      refine Gl.via (fun _ k => XS.iload X0.here hx rfl (hb hby at_117) rfl k) ?_
      show Gl p.tables e below s₁ (mkF m 119 #[.val (.int p0), .val (.int p1), .val (.int p2), .val (.long p3), .second, .val (.int (1 : Int32)), .val (.int (0 : Int32)), .val (.int (p0 % (1048576 : Int32))), .val (.int ((p1 &&& (1048575 : Int32)) + (1 : Int32))), .val (.int (-(p0 % (1048576 : Int32)))), .val (.double (FP.ddiv (FP.i2d (p0 % (1048576 : Int32))) (FP.i2d ((p1 &&& (1048575 : Int32)) + (1 : Int32))))), .second, .val (.double (FP.dneg (FP.ddiv (FP.i2d (p0 % (1048576 : Int32))) (FP.i2d ((p1 &&& (1048575 : Int32)) + (1 : Int32)))))), .second, .unset] [(.int (-(p0 % (1048576 : Int32))))]) G
      by_cases sl : (-(p0 % (1048576 : Int32))) < (0 : Int32)
      · refine Gl.via (fun _ k => XS.ifYes X0.here hx rfl (pc0 := 119) (pc' := 133) rfl (hb hby at_119) rfl ((if0 _ _).trans (tlt sl).1) (by decide) (by decide) k) ?_
        show Gl p.tables e below s₁ (mkF m 133 #[.val (.int p0), .val (.int p1), .val (.int p2), .val (.long p3), .second, .val (.int (1 : Int32)), .val (.int (0 : Int32)), .val (.int (p0 % (1048576 : Int32))), .val (.int ((p1 &&& (1048575 : Int32)) + (1 : Int32))), .val (.int (-(p0 % (1048576 : Int32)))), .val (.double (FP.ddiv (FP.i2d (p0 % (1048576 : Int32))) (FP.i2d ((p1 &&& (1048575 : Int32)) + (1 : Int32))))), .second, .val (.double (FP.dneg (FP.ddiv (FP.i2d (p0 % (1048576 : Int32))) (FP.i2d ((p1 &&& (1048575 : Int32)) + (1 : Int32)))))), .second, .unset] []) G
        refine Gl.via (fun _ k => XS.iconst X0.here hx rfl (hb hby at_133) k) ?_
        show Gl p.tables e below s₁ (mkF m 134 #[.val (.int p0), .val (.int p1), .val (.int p2), .val (.long p3), .second, .val (.int (1 : Int32)), .val (.int (0 : Int32)), .val (.int (p0 % (1048576 : Int32))), .val (.int ((p1 &&& (1048575 : Int32)) + (1 : Int32))), .val (.int (-(p0 % (1048576 : Int32)))), .val (.double (FP.ddiv (FP.i2d (p0 % (1048576 : Int32))) (FP.i2d ((p1 &&& (1048575 : Int32)) + (1 : Int32))))), .second, .val (.double (FP.dneg (FP.ddiv (FP.i2d (p0 % (1048576 : Int32))) (FP.i2d ((p1 &&& (1048575 : Int32)) + (1 : Int32)))))), .second, .unset] [(.int (0 : Int32))]) G
        refine Gl.via (fun _ k => XS.istore X0.here hx rfl (hb hby at_134) rfl (l' := #[.val (.int p0), .val (.int p1), .val (.int p2), .val (.long p3), .second, .val (.int (1 : Int32)), .val (.int (0 : Int32)), .val (.int (p0 % (1048576 : Int32))), .val (.int ((p1 &&& (1048575 : Int32)) + (1 : Int32))), .val (.int (-(p0 % (1048576 : Int32)))), .val (.double (FP.ddiv (FP.i2d (p0 % (1048576 : Int32))) (FP.i2d ((p1 &&& (1048575 : Int32)) + (1 : Int32))))), .second, .val (.double (FP.dneg (FP.ddiv (FP.i2d (p0 % (1048576 : Int32))) (FP.i2d ((p1 &&& (1048575 : Int32)) + (1 : Int32)))))), .second, .val (.int (0 : Int32))]) rfl k) ?_
        show Gl p.tables e below s₁ (mkF m 136 #[.val (.int p0), .val (.int p1), .val (.int p2), .val (.long p3), .second, .val (.int (1 : Int32)), .val (.int (0 : Int32)), .val (.int (p0 % (1048576 : Int32))), .val (.int ((p1 &&& (1048575 : Int32)) + (1 : Int32))), .val (.int (-(p0 % (1048576 : Int32)))), .val (.double (FP.ddiv (FP.i2d (p0 % (1048576 : Int32))) (FP.i2d ((p1 &&& (1048575 : Int32)) + (1 : Int32))))), .second, .val (.double (FP.dneg (FP.ddiv (FP.i2d (p0 % (1048576 : Int32))) (FP.i2d ((p1 &&& (1048575 : Int32)) + (1 : Int32)))))), .second, .val (.int (0 : Int32))] []) G
        refine Gl.via (fun _ k => XS.dload X0.here hx rfl (hb hby at_136) rfl k) ?_
        show Gl p.tables e below s₁ (mkF m 138 #[.val (.int p0), .val (.int p1), .val (.int p2), .val (.long p3), .second, .val (.int (1 : Int32)), .val (.int (0 : Int32)), .val (.int (p0 % (1048576 : Int32))), .val (.int ((p1 &&& (1048575 : Int32)) + (1 : Int32))), .val (.int (-(p0 % (1048576 : Int32)))), .val (.double (FP.ddiv (FP.i2d (p0 % (1048576 : Int32))) (FP.i2d ((p1 &&& (1048575 : Int32)) + (1 : Int32))))), .second, .val (.double (FP.dneg (FP.ddiv (FP.i2d (p0 % (1048576 : Int32))) (FP.i2d ((p1 &&& (1048575 : Int32)) + (1 : Int32)))))), .second, .val (.int (0 : Int32))] [(.double (FP.dneg (FP.ddiv (FP.i2d (p0 % (1048576 : Int32))) (FP.i2d ((p1 &&& (1048575 : Int32)) + (1 : Int32))))))]) G
        obtain ⟨_, _, ⟨T7, L7, k7, n7⟩, -, X7, ⟨Lc7, hQ7, l7, y7, z7⟩, st7⟩ := Jvm.LawKit.callS X0 hx (y := (⟨"com/example/kereso/kereso/PageRank", "isDamping", "(D)Z"⟩ : MethodName)) hown (mvT hZ (hw _ (List.mem_of_getElem? (i := 0) rfl))) (mvT hZ (hw _ (List.mem_of_getElem? (i := 1) rfl))) (mvT hZ (hw _ (List.mem_of_getElem? (i := 2) rfl))) (mvT hZ (hw _ (List.mem_of_getElem? (i := 3) rfl))) (by decide) (backOf (W := 0) (dm0a l Z a0 hw [] (FP.dneg (FP.ddiv (FP.i2d (p0 % (1048576 : Int32))) (FP.i2d ((p1 &&& (1048575 : Int32)) + (1 : Int32))))) h0 n0 Z0 (own_lt0 hR (own_z sl))) hZ (hw _ (List.mem_of_getElem? (i := 3) rfl)) (hw _ (List.mem_of_getElem? (i := 2) rfl)) (by decide) (by decide)) (g := (mkF m 138 #[.val (.int p0), .val (.int p1), .val (.int p2), .val (.long p3), .second, .val (.int (1 : Int32)), .val (.int (0 : Int32)), .val (.int (p0 % (1048576 : Int32))), .val (.int ((p1 &&& (1048575 : Int32)) + (1 : Int32))), .val (.int (-(p0 % (1048576 : Int32)))), .val (.double (FP.ddiv (FP.i2d (p0 % (1048576 : Int32))) (FP.i2d ((p1 &&& (1048575 : Int32)) + (1 : Int32))))), .second, .val (.double (FP.dneg (FP.ddiv (FP.i2d (p0 % (1048576 : Int32))) (FP.i2d ((p1 &&& (1048575 : Int32)) + (1 : Int32)))))), .second, .val (.int (0 : Int32))] [(.double (FP.dneg (FP.ddiv (FP.i2d (p0 % (1048576 : Int32))) (FP.i2d ((p1 &&& (1048575 : Int32)) + (1 : Int32))))))])) rfl (by rw [hml]; rfl) (argsL := [(.double (FP.dneg (FP.ddiv (FP.i2d (p0 % (1048576 : Int32))) (FP.i2d ((p1 &&& (1048575 : Int32)) + (1 : Int32))))))]) (rest := []) (lenOf pd_0 rfl) rfl (by show 2 * 0 + _ ≤ _; exact Nat.le_of_eq rfl) (hb hby at_138) (fun _ _ => ⟨rfl, e0, (by decide : 0 + 0 ≤ _), (by decide : 0 + 0 ≤ _)⟩)
        dsimp only [Pt.U, Pt.locs, Pt.cells, Pt.slots] at X7 l7 y7 z7 st7 hQ7
        subst l7 y7 z7
        obtain ⟨rfl, N7q, eh7⟩ := hQ7
        have N7_ := Fr.app N0 N7q
        refine Gl.via (fun _ k => st7 _ k) ?_
        show Gl p.tables e below T7 (mkF m 141 #[.val (.int p0), .val (.int p1), .val (.int p2), .val (.long p3), .second, .val (.int (1 : Int32)), .val (.int (0 : Int32)), .val (.int (p0 % (1048576 : Int32))), .val (.int ((p1 &&& (1048575 : Int32)) + (1 : Int32))), .val (.int (-(p0 % (1048576 : Int32)))), .val (.double (FP.ddiv (FP.i2d (p0 % (1048576 : Int32))) (FP.i2d ((p1 &&& (1048575 : Int32)) + (1 : Int32))))), .second, .val (.double (FP.dneg (FP.ddiv (FP.i2d (p0 % (1048576 : Int32))) (FP.i2d ((p1 &&& (1048575 : Int32)) + (1 : Int32)))))), .second, .val (.int (0 : Int32))] [(.int (0 : Int32))]) G
        refine Gl.via (fun _ k => XS.iload X7.here hx rfl (hb hby at_141) rfl k) ?_
        show Gl p.tables e below T7 (mkF m 143 #[.val (.int p0), .val (.int p1), .val (.int p2), .val (.long p3), .second, .val (.int (1 : Int32)), .val (.int (0 : Int32)), .val (.int (p0 % (1048576 : Int32))), .val (.int ((p1 &&& (1048575 : Int32)) + (1 : Int32))), .val (.int (-(p0 % (1048576 : Int32)))), .val (.double (FP.ddiv (FP.i2d (p0 % (1048576 : Int32))) (FP.i2d ((p1 &&& (1048575 : Int32)) + (1 : Int32))))), .second, .val (.double (FP.dneg (FP.ddiv (FP.i2d (p0 % (1048576 : Int32))) (FP.i2d ((p1 &&& (1048575 : Int32)) + (1 : Int32)))))), .second, .val (.int (0 : Int32))] [(.int (0 : Int32)), (.int (0 : Int32))]) G
        refine Gl.via (fun _ k => XS.icmpNo X7.here hx rfl (hb hby at_143) rfl (teq (by decide)).2 k) ?_
        show Gl p.tables e below T7 (mkF m 146 #[.val (.int p0), .val (.int p1), .val (.int p2), .val (.long p3), .second, .val (.int (1 : Int32)), .val (.int (0 : Int32)), .val (.int (p0 % (1048576 : Int32))), .val (.int ((p1 &&& (1048575 : Int32)) + (1 : Int32))), .val (.int (-(p0 % (1048576 : Int32)))), .val (.double (FP.ddiv (FP.i2d (p0 % (1048576 : Int32))) (FP.i2d ((p1 &&& (1048575 : Int32)) + (1 : Int32))))), .second, .val (.double (FP.dneg (FP.ddiv (FP.i2d (p0 % (1048576 : Int32))) (FP.i2d ((p1 &&& (1048575 : Int32)) + (1 : Int32)))))), .second, .val (.int (0 : Int32))] []) G
        refine Gl.via (fun _ k => XS.iconst X7.here hx rfl (hb hby at_146) k) ?_
        show Gl p.tables e below T7 (mkF m 147 #[.val (.int p0), .val (.int p1), .val (.int p2), .val (.long p3), .second, .val (.int (1 : Int32)), .val (.int (0 : Int32)), .val (.int (p0 % (1048576 : Int32))), .val (.int ((p1 &&& (1048575 : Int32)) + (1 : Int32))), .val (.int (-(p0 % (1048576 : Int32)))), .val (.double (FP.ddiv (FP.i2d (p0 % (1048576 : Int32))) (FP.i2d ((p1 &&& (1048575 : Int32)) + (1 : Int32))))), .second, .val (.double (FP.dneg (FP.ddiv (FP.i2d (p0 % (1048576 : Int32))) (FP.i2d ((p1 &&& (1048575 : Int32)) + (1 : Int32)))))), .second, .val (.int (0 : Int32))] [(.int (1 : Int32))]) G
        refine Gl.via (fun _ k => XS.goto X7.here hx rfl (pc0 := 147) (pc' := 151) rfl (hb hby at_147) (by decide) (by decide) k) ?_
        show Gl p.tables e below T7 (mkF m 151 #[.val (.int p0), .val (.int p1), .val (.int p2), .val (.long p3), .second, .val (.int (1 : Int32)), .val (.int (0 : Int32)), .val (.int (p0 % (1048576 : Int32))), .val (.int ((p1 &&& (1048575 : Int32)) + (1 : Int32))), .val (.int (-(p0 % (1048576 : Int32)))), .val (.double (FP.ddiv (FP.i2d (p0 % (1048576 : Int32))) (FP.i2d ((p1 &&& (1048575 : Int32)) + (1 : Int32))))), .second, .val (.double (FP.dneg (FP.ddiv (FP.i2d (p0 % (1048576 : Int32))) (FP.i2d ((p1 &&& (1048575 : Int32)) + (1 : Int32)))))), .second, .val (.int (0 : Int32))] [(.int (1 : Int32))]) G
        obtain ⟨fs, hr, hrun, hended, hW, hsame⟩ := X7.leave (v := some (.int (1 : Int32))) (fun h => by rw [Bd.returns] at h; cases h)
        have hq : ∀ L, Fr n0 L → Q_rm0 Z p0 p1 p2 p3 h0 n0 (some (.int (1 : Int32))) T7.heap L := by
          intro L hN
          rw [eh7]
          exact ⟨rfl, hN⟩
        rw [hG]
        exact Gl.fin (retN X7 hx (t := .boolean) Bd.returns (by simp) (hb hby at_151) hr) ⟨_, hrun, hended, _, _, rfl, hq _ N7_, ⟨_, rfl⟩, hW, hsame.mono (by decide) (by decide)⟩
      · refine Gl.via (fun _ k => XS.ifNo X0.here hx rfl (hb hby at_119) rfl ((if0 _ _).trans (flt sl).1) k) ?_
        show Gl p.tables e below s₁ (mkF m 122 #[.val (.int p0), .val (.int p1), .val (.int p2), .val (.long p3), .second, .val (.int (1 : Int32)), .val (.int (0 : Int32)), .val (.int (p0 % (1048576 : Int32))), .val (.int ((p1 &&& (1048575 : Int32)) + (1 : Int32))), .val (.int (-(p0 % (1048576 : Int32)))), .val (.double (FP.ddiv (FP.i2d (p0 % (1048576 : Int32))) (FP.i2d ((p1 &&& (1048575 : Int32)) + (1 : Int32))))), .second, .val (.double (FP.dneg (FP.ddiv (FP.i2d (p0 % (1048576 : Int32))) (FP.i2d ((p1 &&& (1048575 : Int32)) + (1 : Int32)))))), .second, .unset] []) G
        refine Gl.via (fun _ k => XS.iload X0.here hx rfl (hb hby at_122) rfl k) ?_
        show Gl p.tables e below s₁ (mkF m 124 #[.val (.int p0), .val (.int p1), .val (.int p2), .val (.long p3), .second, .val (.int (1 : Int32)), .val (.int (0 : Int32)), .val (.int (p0 % (1048576 : Int32))), .val (.int ((p1 &&& (1048575 : Int32)) + (1 : Int32))), .val (.int (-(p0 % (1048576 : Int32)))), .val (.double (FP.ddiv (FP.i2d (p0 % (1048576 : Int32))) (FP.i2d ((p1 &&& (1048575 : Int32)) + (1 : Int32))))), .second, .val (.double (FP.dneg (FP.ddiv (FP.i2d (p0 % (1048576 : Int32))) (FP.i2d ((p1 &&& (1048575 : Int32)) + (1 : Int32)))))), .second, .unset] [(.int (-(p0 % (1048576 : Int32))))]) G
        refine Gl.via (fun _ k => XS.iload X0.here hx rfl (hb hby at_124) rfl k) ?_
        show Gl p.tables e below s₁ (mkF m 126 #[.val (.int p0), .val (.int p1), .val (.int p2), .val (.long p3), .second, .val (.int (1 : Int32)), .val (.int (0 : Int32)), .val (.int (p0 % (1048576 : Int32))), .val (.int ((p1 &&& (1048575 : Int32)) + (1 : Int32))), .val (.int (-(p0 % (1048576 : Int32)))), .val (.double (FP.ddiv (FP.i2d (p0 % (1048576 : Int32))) (FP.i2d ((p1 &&& (1048575 : Int32)) + (1 : Int32))))), .second, .val (.double (FP.dneg (FP.ddiv (FP.i2d (p0 % (1048576 : Int32))) (FP.i2d ((p1 &&& (1048575 : Int32)) + (1 : Int32)))))), .second, .unset] [(.int ((p1 &&& (1048575 : Int32)) + (1 : Int32))), (.int (-(p0 % (1048576 : Int32))))]) G
        by_cases sg : (-(p0 % (1048576 : Int32))) < ((p1 &&& (1048575 : Int32)) + (1 : Int32))
        · refine Gl.via (fun _ k => XS.icmpNo X0.here hx rfl (hb hby at_126) rfl (tlt sg).2.1 k) ?_
          show Gl p.tables e below s₁ (mkF m 129 #[.val (.int p0), .val (.int p1), .val (.int p2), .val (.long p3), .second, .val (.int (1 : Int32)), .val (.int (0 : Int32)), .val (.int (p0 % (1048576 : Int32))), .val (.int ((p1 &&& (1048575 : Int32)) + (1 : Int32))), .val (.int (-(p0 % (1048576 : Int32)))), .val (.double (FP.ddiv (FP.i2d (p0 % (1048576 : Int32))) (FP.i2d ((p1 &&& (1048575 : Int32)) + (1 : Int32))))), .second, .val (.double (FP.dneg (FP.ddiv (FP.i2d (p0 % (1048576 : Int32))) (FP.i2d ((p1 &&& (1048575 : Int32)) + (1 : Int32)))))), .second, .unset] []) G
          refine Gl.via (fun _ k => XS.iconst X0.here hx rfl (hb hby at_129) k) ?_
          show Gl p.tables e below s₁ (mkF m 130 #[.val (.int p0), .val (.int p1), .val (.int p2), .val (.long p3), .second, .val (.int (1 : Int32)), .val (.int (0 : Int32)), .val (.int (p0 % (1048576 : Int32))), .val (.int ((p1 &&& (1048575 : Int32)) + (1 : Int32))), .val (.int (-(p0 % (1048576 : Int32)))), .val (.double (FP.ddiv (FP.i2d (p0 % (1048576 : Int32))) (FP.i2d ((p1 &&& (1048575 : Int32)) + (1 : Int32))))), .second, .val (.double (FP.dneg (FP.ddiv (FP.i2d (p0 % (1048576 : Int32))) (FP.i2d ((p1 &&& (1048575 : Int32)) + (1 : Int32)))))), .second, .unset] [(.int (1 : Int32))]) G
          refine Gl.via (fun _ k => XS.goto X0.here hx rfl (pc0 := 130) (pc' := 134) rfl (hb hby at_130) (by decide) (by decide) k) ?_
          show Gl p.tables e below s₁ (mkF m 134 #[.val (.int p0), .val (.int p1), .val (.int p2), .val (.long p3), .second, .val (.int (1 : Int32)), .val (.int (0 : Int32)), .val (.int (p0 % (1048576 : Int32))), .val (.int ((p1 &&& (1048575 : Int32)) + (1 : Int32))), .val (.int (-(p0 % (1048576 : Int32)))), .val (.double (FP.ddiv (FP.i2d (p0 % (1048576 : Int32))) (FP.i2d ((p1 &&& (1048575 : Int32)) + (1 : Int32))))), .second, .val (.double (FP.dneg (FP.ddiv (FP.i2d (p0 % (1048576 : Int32))) (FP.i2d ((p1 &&& (1048575 : Int32)) + (1 : Int32)))))), .second, .unset] [(.int (1 : Int32))]) G
          refine Gl.via (fun _ k => XS.istore X0.here hx rfl (hb hby at_134) rfl (l' := #[.val (.int p0), .val (.int p1), .val (.int p2), .val (.long p3), .second, .val (.int (1 : Int32)), .val (.int (0 : Int32)), .val (.int (p0 % (1048576 : Int32))), .val (.int ((p1 &&& (1048575 : Int32)) + (1 : Int32))), .val (.int (-(p0 % (1048576 : Int32)))), .val (.double (FP.ddiv (FP.i2d (p0 % (1048576 : Int32))) (FP.i2d ((p1 &&& (1048575 : Int32)) + (1 : Int32))))), .second, .val (.double (FP.dneg (FP.ddiv (FP.i2d (p0 % (1048576 : Int32))) (FP.i2d ((p1 &&& (1048575 : Int32)) + (1 : Int32)))))), .second, .val (.int (1 : Int32))]) rfl k) ?_
          show Gl p.tables e below s₁ (mkF m 136 #[.val (.int p0), .val (.int p1), .val (.int p2), .val (.long p3), .second, .val (.int (1 : Int32)), .val (.int (0 : Int32)), .val (.int (p0 % (1048576 : Int32))), .val (.int ((p1 &&& (1048575 : Int32)) + (1 : Int32))), .val (.int (-(p0 % (1048576 : Int32)))), .val (.double (FP.ddiv (FP.i2d (p0 % (1048576 : Int32))) (FP.i2d ((p1 &&& (1048575 : Int32)) + (1 : Int32))))), .second, .val (.double (FP.dneg (FP.ddiv (FP.i2d (p0 % (1048576 : Int32))) (FP.i2d ((p1 &&& (1048575 : Int32)) + (1 : Int32)))))), .second, .val (.int (1 : Int32))] []) G
          refine Gl.via (fun _ k => XS.dload X0.here hx rfl (hb hby at_136) rfl k) ?_
          show Gl p.tables e below s₁ (mkF m 138 #[.val (.int p0), .val (.int p1), .val (.int p2), .val (.long p3), .second, .val (.int (1 : Int32)), .val (.int (0 : Int32)), .val (.int (p0 % (1048576 : Int32))), .val (.int ((p1 &&& (1048575 : Int32)) + (1 : Int32))), .val (.int (-(p0 % (1048576 : Int32)))), .val (.double (FP.ddiv (FP.i2d (p0 % (1048576 : Int32))) (FP.i2d ((p1 &&& (1048575 : Int32)) + (1 : Int32))))), .second, .val (.double (FP.dneg (FP.ddiv (FP.i2d (p0 % (1048576 : Int32))) (FP.i2d ((p1 &&& (1048575 : Int32)) + (1 : Int32)))))), .second, .val (.int (1 : Int32))] [(.double (FP.dneg (FP.ddiv (FP.i2d (p0 % (1048576 : Int32))) (FP.i2d ((p1 &&& (1048575 : Int32)) + (1 : Int32))))))]) G
          obtain ⟨_, _, ⟨T8, L8, k8, n8⟩, -, X8, ⟨Lc8, hQ8, l8, y8, z8⟩, st8⟩ := Jvm.LawKit.callS X0 hx (y := (⟨"com/example/kereso/kereso/PageRank", "isDamping", "(D)Z"⟩ : MethodName)) hown (mvT hZ (hw _ (List.mem_of_getElem? (i := 0) rfl))) (mvT hZ (hw _ (List.mem_of_getElem? (i := 1) rfl))) (mvT hZ (hw _ (List.mem_of_getElem? (i := 2) rfl))) (mvT hZ (hw _ (List.mem_of_getElem? (i := 3) rfl))) (by decide) (backOf (W := 0) (dm1 l Z a0 hw [] (FP.dneg (FP.ddiv (FP.i2d (p0 % (1048576 : Int32))) (FP.i2d ((p1 &&& (1048575 : Int32)) + (1 : Int32))))) h0 n0 Z0 (own_ge0 hR (own_nz sl)) (own_lt1 hR (own_l sg))) hZ (hw _ (List.mem_of_getElem? (i := 3) rfl)) (hw _ (List.mem_of_getElem? (i := 2) rfl)) (by decide) (by decide)) (g := (mkF m 138 #[.val (.int p0), .val (.int p1), .val (.int p2), .val (.long p3), .second, .val (.int (1 : Int32)), .val (.int (0 : Int32)), .val (.int (p0 % (1048576 : Int32))), .val (.int ((p1 &&& (1048575 : Int32)) + (1 : Int32))), .val (.int (-(p0 % (1048576 : Int32)))), .val (.double (FP.ddiv (FP.i2d (p0 % (1048576 : Int32))) (FP.i2d ((p1 &&& (1048575 : Int32)) + (1 : Int32))))), .second, .val (.double (FP.dneg (FP.ddiv (FP.i2d (p0 % (1048576 : Int32))) (FP.i2d ((p1 &&& (1048575 : Int32)) + (1 : Int32)))))), .second, .val (.int (1 : Int32))] [(.double (FP.dneg (FP.ddiv (FP.i2d (p0 % (1048576 : Int32))) (FP.i2d ((p1 &&& (1048575 : Int32)) + (1 : Int32))))))])) rfl (by rw [hml]; rfl) (argsL := [(.double (FP.dneg (FP.ddiv (FP.i2d (p0 % (1048576 : Int32))) (FP.i2d ((p1 &&& (1048575 : Int32)) + (1 : Int32))))))]) (rest := []) (lenOf pd_0 rfl) rfl (by show 2 * 0 + _ ≤ _; exact Nat.le_of_eq rfl) (hb hby at_138) (fun _ _ => ⟨rfl, e0, (by decide : 0 + 0 ≤ _), (by decide : 0 + 0 ≤ _)⟩)
          dsimp only [Pt.U, Pt.locs, Pt.cells, Pt.slots] at X8 l8 y8 z8 st8 hQ8
          subst l8 y8 z8
          obtain ⟨rfl, N8q, eh8⟩ := hQ8
          have N8_ := Fr.app N0 N8q
          refine Gl.via (fun _ k => st8 _ k) ?_
          show Gl p.tables e below T8 (mkF m 141 #[.val (.int p0), .val (.int p1), .val (.int p2), .val (.long p3), .second, .val (.int (1 : Int32)), .val (.int (0 : Int32)), .val (.int (p0 % (1048576 : Int32))), .val (.int ((p1 &&& (1048575 : Int32)) + (1 : Int32))), .val (.int (-(p0 % (1048576 : Int32)))), .val (.double (FP.ddiv (FP.i2d (p0 % (1048576 : Int32))) (FP.i2d ((p1 &&& (1048575 : Int32)) + (1 : Int32))))), .second, .val (.double (FP.dneg (FP.ddiv (FP.i2d (p0 % (1048576 : Int32))) (FP.i2d ((p1 &&& (1048575 : Int32)) + (1 : Int32)))))), .second, .val (.int (1 : Int32))] [(.int (1 : Int32))]) G
          refine Gl.via (fun _ k => XS.iload X8.here hx rfl (hb hby at_141) rfl k) ?_
          show Gl p.tables e below T8 (mkF m 143 #[.val (.int p0), .val (.int p1), .val (.int p2), .val (.long p3), .second, .val (.int (1 : Int32)), .val (.int (0 : Int32)), .val (.int (p0 % (1048576 : Int32))), .val (.int ((p1 &&& (1048575 : Int32)) + (1 : Int32))), .val (.int (-(p0 % (1048576 : Int32)))), .val (.double (FP.ddiv (FP.i2d (p0 % (1048576 : Int32))) (FP.i2d ((p1 &&& (1048575 : Int32)) + (1 : Int32))))), .second, .val (.double (FP.dneg (FP.ddiv (FP.i2d (p0 % (1048576 : Int32))) (FP.i2d ((p1 &&& (1048575 : Int32)) + (1 : Int32)))))), .second, .val (.int (1 : Int32))] [(.int (1 : Int32)), (.int (1 : Int32))]) G
          refine Gl.via (fun _ k => XS.icmpNo X8.here hx rfl (hb hby at_143) rfl (teq (by decide)).2 k) ?_
          show Gl p.tables e below T8 (mkF m 146 #[.val (.int p0), .val (.int p1), .val (.int p2), .val (.long p3), .second, .val (.int (1 : Int32)), .val (.int (0 : Int32)), .val (.int (p0 % (1048576 : Int32))), .val (.int ((p1 &&& (1048575 : Int32)) + (1 : Int32))), .val (.int (-(p0 % (1048576 : Int32)))), .val (.double (FP.ddiv (FP.i2d (p0 % (1048576 : Int32))) (FP.i2d ((p1 &&& (1048575 : Int32)) + (1 : Int32))))), .second, .val (.double (FP.dneg (FP.ddiv (FP.i2d (p0 % (1048576 : Int32))) (FP.i2d ((p1 &&& (1048575 : Int32)) + (1 : Int32)))))), .second, .val (.int (1 : Int32))] []) G
          refine Gl.via (fun _ k => XS.iconst X8.here hx rfl (hb hby at_146) k) ?_
          show Gl p.tables e below T8 (mkF m 147 #[.val (.int p0), .val (.int p1), .val (.int p2), .val (.long p3), .second, .val (.int (1 : Int32)), .val (.int (0 : Int32)), .val (.int (p0 % (1048576 : Int32))), .val (.int ((p1 &&& (1048575 : Int32)) + (1 : Int32))), .val (.int (-(p0 % (1048576 : Int32)))), .val (.double (FP.ddiv (FP.i2d (p0 % (1048576 : Int32))) (FP.i2d ((p1 &&& (1048575 : Int32)) + (1 : Int32))))), .second, .val (.double (FP.dneg (FP.ddiv (FP.i2d (p0 % (1048576 : Int32))) (FP.i2d ((p1 &&& (1048575 : Int32)) + (1 : Int32)))))), .second, .val (.int (1 : Int32))] [(.int (1 : Int32))]) G
          refine Gl.via (fun _ k => XS.goto X8.here hx rfl (pc0 := 147) (pc' := 151) rfl (hb hby at_147) (by decide) (by decide) k) ?_
          show Gl p.tables e below T8 (mkF m 151 #[.val (.int p0), .val (.int p1), .val (.int p2), .val (.long p3), .second, .val (.int (1 : Int32)), .val (.int (0 : Int32)), .val (.int (p0 % (1048576 : Int32))), .val (.int ((p1 &&& (1048575 : Int32)) + (1 : Int32))), .val (.int (-(p0 % (1048576 : Int32)))), .val (.double (FP.ddiv (FP.i2d (p0 % (1048576 : Int32))) (FP.i2d ((p1 &&& (1048575 : Int32)) + (1 : Int32))))), .second, .val (.double (FP.dneg (FP.ddiv (FP.i2d (p0 % (1048576 : Int32))) (FP.i2d ((p1 &&& (1048575 : Int32)) + (1 : Int32)))))), .second, .val (.int (1 : Int32))] [(.int (1 : Int32))]) G
          obtain ⟨fs, hr, hrun, hended, hW, hsame⟩ := X8.leave (v := some (.int (1 : Int32))) (fun h => by rw [Bd.returns] at h; cases h)
          have hq : ∀ L, Fr n0 L → Q_rm0 Z p0 p1 p2 p3 h0 n0 (some (.int (1 : Int32))) T8.heap L := by
            intro L hN
            rw [eh8]
            exact ⟨rfl, hN⟩
          rw [hG]
          exact Gl.fin (retN X8 hx (t := .boolean) Bd.returns (by simp) (hb hby at_151) hr) ⟨_, hrun, hended, _, _, rfl, hq _ N8_, ⟨_, rfl⟩, hW, hsame.mono (by decide) (by decide)⟩
        · refine Gl.via (fun _ k => XS.icmpYes X0.here hx rfl (pc0 := 126) (pc' := 133) rfl (hb hby at_126) rfl (flt sg).2.1 (by decide) (by decide) k) ?_
          show Gl p.tables e below s₁ (mkF m 133 #[.val (.int p0), .val (.int p1), .val (.int p2), .val (.long p3), .second, .val (.int (1 : Int32)), .val (.int (0 : Int32)), .val (.int (p0 % (1048576 : Int32))), .val (.int ((p1 &&& (1048575 : Int32)) + (1 : Int32))), .val (.int (-(p0 % (1048576 : Int32)))), .val (.double (FP.ddiv (FP.i2d (p0 % (1048576 : Int32))) (FP.i2d ((p1 &&& (1048575 : Int32)) + (1 : Int32))))), .second, .val (.double (FP.dneg (FP.ddiv (FP.i2d (p0 % (1048576 : Int32))) (FP.i2d ((p1 &&& (1048575 : Int32)) + (1 : Int32)))))), .second, .unset] []) G
          refine Gl.via (fun _ k => XS.iconst X0.here hx rfl (hb hby at_133) k) ?_
          show Gl p.tables e below s₁ (mkF m 134 #[.val (.int p0), .val (.int p1), .val (.int p2), .val (.long p3), .second, .val (.int (1 : Int32)), .val (.int (0 : Int32)), .val (.int (p0 % (1048576 : Int32))), .val (.int ((p1 &&& (1048575 : Int32)) + (1 : Int32))), .val (.int (-(p0 % (1048576 : Int32)))), .val (.double (FP.ddiv (FP.i2d (p0 % (1048576 : Int32))) (FP.i2d ((p1 &&& (1048575 : Int32)) + (1 : Int32))))), .second, .val (.double (FP.dneg (FP.ddiv (FP.i2d (p0 % (1048576 : Int32))) (FP.i2d ((p1 &&& (1048575 : Int32)) + (1 : Int32)))))), .second, .unset] [(.int (0 : Int32))]) G
          refine Gl.via (fun _ k => XS.istore X0.here hx rfl (hb hby at_134) rfl (l' := #[.val (.int p0), .val (.int p1), .val (.int p2), .val (.long p3), .second, .val (.int (1 : Int32)), .val (.int (0 : Int32)), .val (.int (p0 % (1048576 : Int32))), .val (.int ((p1 &&& (1048575 : Int32)) + (1 : Int32))), .val (.int (-(p0 % (1048576 : Int32)))), .val (.double (FP.ddiv (FP.i2d (p0 % (1048576 : Int32))) (FP.i2d ((p1 &&& (1048575 : Int32)) + (1 : Int32))))), .second, .val (.double (FP.dneg (FP.ddiv (FP.i2d (p0 % (1048576 : Int32))) (FP.i2d ((p1 &&& (1048575 : Int32)) + (1 : Int32)))))), .second, .val (.int (0 : Int32))]) rfl k) ?_
          show Gl p.tables e below s₁ (mkF m 136 #[.val (.int p0), .val (.int p1), .val (.int p2), .val (.long p3), .second, .val (.int (1 : Int32)), .val (.int (0 : Int32)), .val (.int (p0 % (1048576 : Int32))), .val (.int ((p1 &&& (1048575 : Int32)) + (1 : Int32))), .val (.int (-(p0 % (1048576 : Int32)))), .val (.double (FP.ddiv (FP.i2d (p0 % (1048576 : Int32))) (FP.i2d ((p1 &&& (1048575 : Int32)) + (1 : Int32))))), .second, .val (.double (FP.dneg (FP.ddiv (FP.i2d (p0 % (1048576 : Int32))) (FP.i2d ((p1 &&& (1048575 : Int32)) + (1 : Int32)))))), .second, .val (.int (0 : Int32))] []) G
          refine Gl.via (fun _ k => XS.dload X0.here hx rfl (hb hby at_136) rfl k) ?_
          show Gl p.tables e below s₁ (mkF m 138 #[.val (.int p0), .val (.int p1), .val (.int p2), .val (.long p3), .second, .val (.int (1 : Int32)), .val (.int (0 : Int32)), .val (.int (p0 % (1048576 : Int32))), .val (.int ((p1 &&& (1048575 : Int32)) + (1 : Int32))), .val (.int (-(p0 % (1048576 : Int32)))), .val (.double (FP.ddiv (FP.i2d (p0 % (1048576 : Int32))) (FP.i2d ((p1 &&& (1048575 : Int32)) + (1 : Int32))))), .second, .val (.double (FP.dneg (FP.ddiv (FP.i2d (p0 % (1048576 : Int32))) (FP.i2d ((p1 &&& (1048575 : Int32)) + (1 : Int32)))))), .second, .val (.int (0 : Int32))] [(.double (FP.dneg (FP.ddiv (FP.i2d (p0 % (1048576 : Int32))) (FP.i2d ((p1 &&& (1048575 : Int32)) + (1 : Int32))))))]) G
          obtain ⟨_, _, ⟨T9, L9, k9, n9⟩, -, X9, ⟨Lc9, hQ9, l9, y9, z9⟩, st9⟩ := Jvm.LawKit.callS X0 hx (y := (⟨"com/example/kereso/kereso/PageRank", "isDamping", "(D)Z"⟩ : MethodName)) hown (mvT hZ (hw _ (List.mem_of_getElem? (i := 0) rfl))) (mvT hZ (hw _ (List.mem_of_getElem? (i := 1) rfl))) (mvT hZ (hw _ (List.mem_of_getElem? (i := 2) rfl))) (mvT hZ (hw _ (List.mem_of_getElem? (i := 3) rfl))) (by decide) (backOf (W := 0) (dm0b l Z a0 hw [] (FP.dneg (FP.ddiv (FP.i2d (p0 % (1048576 : Int32))) (FP.i2d ((p1 &&& (1048575 : Int32)) + (1 : Int32))))) h0 n0 Z0 (own_ge0 hR (own_nz sl)) (own_ge1 hR (own_nl sg))) hZ (hw _ (List.mem_of_getElem? (i := 3) rfl)) (hw _ (List.mem_of_getElem? (i := 2) rfl)) (by decide) (by decide)) (g := (mkF m 138 #[.val (.int p0), .val (.int p1), .val (.int p2), .val (.long p3), .second, .val (.int (1 : Int32)), .val (.int (0 : Int32)), .val (.int (p0 % (1048576 : Int32))), .val (.int ((p1 &&& (1048575 : Int32)) + (1 : Int32))), .val (.int (-(p0 % (1048576 : Int32)))), .val (.double (FP.ddiv (FP.i2d (p0 % (1048576 : Int32))) (FP.i2d ((p1 &&& (1048575 : Int32)) + (1 : Int32))))), .second, .val (.double (FP.dneg (FP.ddiv (FP.i2d (p0 % (1048576 : Int32))) (FP.i2d ((p1 &&& (1048575 : Int32)) + (1 : Int32)))))), .second, .val (.int (0 : Int32))] [(.double (FP.dneg (FP.ddiv (FP.i2d (p0 % (1048576 : Int32))) (FP.i2d ((p1 &&& (1048575 : Int32)) + (1 : Int32))))))])) rfl (by rw [hml]; rfl) (argsL := [(.double (FP.dneg (FP.ddiv (FP.i2d (p0 % (1048576 : Int32))) (FP.i2d ((p1 &&& (1048575 : Int32)) + (1 : Int32))))))]) (rest := []) (lenOf pd_0 rfl) rfl (by show 2 * 0 + _ ≤ _; exact Nat.le_of_eq rfl) (hb hby at_138) (fun _ _ => ⟨rfl, e0, (by decide : 0 + 0 ≤ _), (by decide : 0 + 0 ≤ _)⟩)
          dsimp only [Pt.U, Pt.locs, Pt.cells, Pt.slots] at X9 l9 y9 z9 st9 hQ9
          subst l9 y9 z9
          obtain ⟨rfl, N9q, eh9⟩ := hQ9
          have N9_ := Fr.app N0 N9q
          refine Gl.via (fun _ k => st9 _ k) ?_
          show Gl p.tables e below T9 (mkF m 141 #[.val (.int p0), .val (.int p1), .val (.int p2), .val (.long p3), .second, .val (.int (1 : Int32)), .val (.int (0 : Int32)), .val (.int (p0 % (1048576 : Int32))), .val (.int ((p1 &&& (1048575 : Int32)) + (1 : Int32))), .val (.int (-(p0 % (1048576 : Int32)))), .val (.double (FP.ddiv (FP.i2d (p0 % (1048576 : Int32))) (FP.i2d ((p1 &&& (1048575 : Int32)) + (1 : Int32))))), .second, .val (.double (FP.dneg (FP.ddiv (FP.i2d (p0 % (1048576 : Int32))) (FP.i2d ((p1 &&& (1048575 : Int32)) + (1 : Int32)))))), .second, .val (.int (0 : Int32))] [(.int (0 : Int32))]) G
          refine Gl.via (fun _ k => XS.iload X9.here hx rfl (hb hby at_141) rfl k) ?_
          show Gl p.tables e below T9 (mkF m 143 #[.val (.int p0), .val (.int p1), .val (.int p2), .val (.long p3), .second, .val (.int (1 : Int32)), .val (.int (0 : Int32)), .val (.int (p0 % (1048576 : Int32))), .val (.int ((p1 &&& (1048575 : Int32)) + (1 : Int32))), .val (.int (-(p0 % (1048576 : Int32)))), .val (.double (FP.ddiv (FP.i2d (p0 % (1048576 : Int32))) (FP.i2d ((p1 &&& (1048575 : Int32)) + (1 : Int32))))), .second, .val (.double (FP.dneg (FP.ddiv (FP.i2d (p0 % (1048576 : Int32))) (FP.i2d ((p1 &&& (1048575 : Int32)) + (1 : Int32)))))), .second, .val (.int (0 : Int32))] [(.int (0 : Int32)), (.int (0 : Int32))]) G
          refine Gl.via (fun _ k => XS.icmpNo X9.here hx rfl (hb hby at_143) rfl (teq (by decide)).2 k) ?_
          show Gl p.tables e below T9 (mkF m 146 #[.val (.int p0), .val (.int p1), .val (.int p2), .val (.long p3), .second, .val (.int (1 : Int32)), .val (.int (0 : Int32)), .val (.int (p0 % (1048576 : Int32))), .val (.int ((p1 &&& (1048575 : Int32)) + (1 : Int32))), .val (.int (-(p0 % (1048576 : Int32)))), .val (.double (FP.ddiv (FP.i2d (p0 % (1048576 : Int32))) (FP.i2d ((p1 &&& (1048575 : Int32)) + (1 : Int32))))), .second, .val (.double (FP.dneg (FP.ddiv (FP.i2d (p0 % (1048576 : Int32))) (FP.i2d ((p1 &&& (1048575 : Int32)) + (1 : Int32)))))), .second, .val (.int (0 : Int32))] []) G
          refine Gl.via (fun _ k => XS.iconst X9.here hx rfl (hb hby at_146) k) ?_
          show Gl p.tables e below T9 (mkF m 147 #[.val (.int p0), .val (.int p1), .val (.int p2), .val (.long p3), .second, .val (.int (1 : Int32)), .val (.int (0 : Int32)), .val (.int (p0 % (1048576 : Int32))), .val (.int ((p1 &&& (1048575 : Int32)) + (1 : Int32))), .val (.int (-(p0 % (1048576 : Int32)))), .val (.double (FP.ddiv (FP.i2d (p0 % (1048576 : Int32))) (FP.i2d ((p1 &&& (1048575 : Int32)) + (1 : Int32))))), .second, .val (.double (FP.dneg (FP.ddiv (FP.i2d (p0 % (1048576 : Int32))) (FP.i2d ((p1 &&& (1048575 : Int32)) + (1 : Int32)))))), .second, .val (.int (0 : Int32))] [(.int (1 : Int32))]) G
          refine Gl.via (fun _ k => XS.goto X9.here hx rfl (pc0 := 147) (pc' := 151) rfl (hb hby at_147) (by decide) (by decide) k) ?_
          show Gl p.tables e below T9 (mkF m 151 #[.val (.int p0), .val (.int p1), .val (.int p2), .val (.long p3), .second, .val (.int (1 : Int32)), .val (.int (0 : Int32)), .val (.int (p0 % (1048576 : Int32))), .val (.int ((p1 &&& (1048575 : Int32)) + (1 : Int32))), .val (.int (-(p0 % (1048576 : Int32)))), .val (.double (FP.ddiv (FP.i2d (p0 % (1048576 : Int32))) (FP.i2d ((p1 &&& (1048575 : Int32)) + (1 : Int32))))), .second, .val (.double (FP.dneg (FP.ddiv (FP.i2d (p0 % (1048576 : Int32))) (FP.i2d ((p1 &&& (1048575 : Int32)) + (1 : Int32)))))), .second, .val (.int (0 : Int32))] [(.int (1 : Int32))]) G
          obtain ⟨fs, hr, hrun, hended, hW, hsame⟩ := X9.leave (v := some (.int (1 : Int32))) (fun h => by rw [Bd.returns] at h; cases h)
          have hq : ∀ L, Fr n0 L → Q_rm0 Z p0 p1 p2 p3 h0 n0 (some (.int (1 : Int32))) T9.heap L := by
            intro L hN
            rw [eh9]
            exact ⟨rfl, hN⟩
          rw [hG]
          exact Gl.fin (retN X9 hx (t := .boolean) Bd.returns (by simp) (hb hby at_151) hr) ⟨_, hrun, hended, _, _, rfl, hq _ N9_, ⟨_, rfl⟩, hW, hsame.mono (by decide) (by decide)⟩
    · refine Gl.via (fun _ k => XS.ifNo X0.here hx rfl (hb hby at_16) rfl ((if0 _ _).trans (feq wf).1) k) ?_
      show Gl p.tables e below s₁ (mkF m 19 #[.val (.int p0), .val (.int p1), .val (.int p2), .val (.long p3), .second, .val (.int (1 : Int32)), .unset, .unset, .unset, .unset, .unset, .unset, .unset, .unset, .unset] []) G
      refine Gl.via (fun _ k => XS.iconst X0.here hx rfl (hb hby at_19) k) ?_
      show Gl p.tables e below s₁ (mkF m 20 #[.val (.int p0), .val (.int p1), .val (.int p2), .val (.long p3), .second, .val (.int (1 : Int32)), .unset, .unset, .unset, .unset, .unset, .unset, .unset, .unset, .unset] [(.int (1 : Int32))]) G
      refine Gl.via (fun _ k => XS.goto X0.here hx rfl (pc0 := 20) (pc' := 24) rfl (hb hby at_20) (by decide) (by decide) k) ?_
      show Gl p.tables e below s₁ (mkF m 24 #[.val (.int p0), .val (.int p1), .val (.int p2), .val (.long p3), .second, .val (.int (1 : Int32)), .unset, .unset, .unset, .unset, .unset, .unset, .unset, .unset, .unset] [(.int (1 : Int32))]) G
      refine Gl.via (fun _ k => XS.istore X0.here hx rfl (hb hby at_24) rfl (l' := #[.val (.int p0), .val (.int p1), .val (.int p2), .val (.long p3), .second, .val (.int (1 : Int32)), .val (.int (1 : Int32)), .unset, .unset, .unset, .unset, .unset, .unset, .unset, .unset]) rfl k) ?_
      show Gl p.tables e below s₁ (mkF m 26 #[.val (.int p0), .val (.int p1), .val (.int p2), .val (.long p3), .second, .val (.int (1 : Int32)), .val (.int (1 : Int32)), .unset, .unset, .unset, .unset, .unset, .unset, .unset, .unset] []) G
      refine Gl.via (fun _ k => XS.iload X0.here hx rfl (hb hby at_26) rfl k) ?_
      show Gl p.tables e below s₁ (mkF m 28 #[.val (.int p0), .val (.int p1), .val (.int p2), .val (.long p3), .second, .val (.int (1 : Int32)), .val (.int (1 : Int32)), .unset, .unset, .unset, .unset, .unset, .unset, .unset, .unset] [(.int (1 : Int32))]) G
      refine Gl.via (fun _ k => XS.ifNo X0.here hx rfl (hb hby at_28) rfl ((if0 _ _).trans (feq (by decide)).1) k) ?_
      show Gl p.tables e below s₁ (mkF m 31 #[.val (.int p0), .val (.int p1), .val (.int p2), .val (.long p3), .second, .val (.int (1 : Int32)), .val (.int (1 : Int32)), .unset, .unset, .unset, .unset, .unset, .unset, .unset, .unset] []) G
      refine Gl.via (fun _ k => XS.lloadN X0.here hx rfl (hb hby at_31) rfl k) ?_
      show Gl p.tables e below s₁ (mkF m 32 #[.val (.int p0), .val (.int p1), .val (.int p2), .val (.long p3), .second, .val (.int (1 : Int32)), .val (.int (1 : Int32)), .unset, .unset, .unset, .unset, .unset, .unset, .unset, .unset] [(.long p3)]) G
      refine Gl.via (fun _ k => XS.l2dS X0.here hx rfl (hb hby at_32) rfl rfl k) ?_
      show Gl p.tables e below s₁ (mkF m 33 #[.val (.int p0), .val (.int p1), .val (.int p2), .val (.long p3), .second, .val (.int (1 : Int32)), .val (.int (1 : Int32)), .unset, .unset, .unset, .unset, .unset, .unset, .unset, .unset] [(.double (FP.l2d p3))]) G
      refine Gl.via (fun _ k => XS.dstore X0.here hx rfl (hb hby at_33) rfl (l' := #[.val (.int p0), .val (.int p1), .val (.int p2), .val (.long p3), .second, .val (.int (1 : Int32)), .val (.int (1 : Int32)), .val (.double (FP.l2d p3)), .second, .unset, .unset, .unset, .unset, .unset, .unset]) rfl k) ?_
      show Gl p.tables e below s₁ (mkF m 35 #[.val (.int p0), .val (.int p1), .val (.int p2), .val (.long p3), .second, .val (.int (1 : Int32)), .val (.int (1 : Int32)), .val (.double (FP.l2d p3)), .second, .unset, .unset, .unset, .unset, .unset, .unset] []) G
      refine Gl.via (fun _ k => XS.lloadN X0.here hx rfl (hb hby at_35) rfl k) ?_
      show Gl p.tables e below s₁ (mkF m 36 #[.val (.int p0), .val (.int p1), .val (.int p2), .val (.long p3), .second, .val (.int (1 : Int32)), .val (.int (1 : Int32)), .val (.double (FP.l2d p3)), .second, .unset, .unset, .unset, .unset, .unset, .unset] [(.long p3)]) G
      refine Gl.via (fun _ k => XS.lconst X0.here hx rfl (hb hby at_36) k) ?_
      show Gl p.tables e below s₁ (mkF m 37 #[.val (.int p0), .val (.int p1), .val (.int p2), .val (.long p3), .second, .val (.int (1 : Int32)), .val (.int (1 : Int32)), .val (.double (FP.l2d p3)), .second, .unset, .unset, .unset, .unset, .unset, .unset] [(.long (0 : Int64)), (.long p3)]) G
      refine Gl.via (fun _ k => XS.lcmp X0.here hx rfl (hb hby at_37) rfl k) ?_
      show Gl p.tables e below s₁ (mkF m 38 #[.val (.int p0), .val (.int p1), .val (.int p2), .val (.long p3), .second, .val (.int (1 : Int32)), .val (.int (1 : Int32)), .val (.double (FP.l2d p3)), .second, .unset, .unset, .unset, .unset, .unset, .unset] [(.int (lcmpW p3 (0 : Int64)))]) G
      by_cases bz : (lcmpW p3 (0 : Int64)) = (0 : Int32)
      · refine Gl.via (fun _ k => XS.ifNo X0.here hx rfl (hb hby at_38) rfl ((if0 _ _).trans (teq bz).2) k) ?_
        show Gl p.tables e below s₁ (mkF m 41 #[.val (.int p0), .val (.int p1), .val (.int p2), .val (.long p3), .second, .val (.int (1 : Int32)), .val (.int (1 : Int32)), .val (.double (FP.l2d p3)), .second, .unset, .unset, .unset, .unset, .unset, .unset] []) G
        refine Gl.via (fun _ k => XS.iconst X0.here hx rfl (hb hby at_41) k) ?_
        show Gl p.tables e below s₁ (mkF m 42 #[.val (.int p0), .val (.int p1), .val (.int p2), .val (.long p3), .second, .val (.int (1 : Int32)), .val (.int (1 : Int32)), .val (.double (FP.l2d p3)), .second, .unset, .unset, .unset, .unset, .unset, .unset] [(.int (1 : Int32))]) G
        refine Gl.via (fun _ k => XS.goto X0.here hx rfl (pc0 := 42) (pc' := 46) rfl (hb hby at_42) (by decide) (by decide) k) ?_
        show Gl p.tables e below s₁ (mkF m 46 #[.val (.int p0), .val (.int p1), .val (.int p2), .val (.long p3), .second, .val (.int (1 : Int32)), .val (.int (1 : Int32)), .val (.double (FP.l2d p3)), .second, .unset, .unset, .unset, .unset, .unset, .unset] [(.int (1 : Int32))]) G
        refine Gl.via (fun _ k => XS.istore X0.here hx rfl (hb hby at_46) rfl (l' := #[.val (.int p0), .val (.int p1), .val (.int p2), .val (.long p3), .second, .val (.int (1 : Int32)), .val (.int (1 : Int32)), .val (.double (FP.l2d p3)), .second, .val (.int (1 : Int32)), .unset, .unset, .unset, .unset, .unset]) rfl k) ?_
        show Gl p.tables e below s₁ (mkF m 48 #[.val (.int p0), .val (.int p1), .val (.int p2), .val (.long p3), .second, .val (.int (1 : Int32)), .val (.int (1 : Int32)), .val (.double (FP.l2d p3)), .second, .val (.int (1 : Int32)), .unset, .unset, .unset, .unset, .unset] []) G
        refine Gl.via (fun _ k => XS.dload X0.here hx rfl (hb hby at_48) rfl k) ?_
        show Gl p.tables e below s₁ (mkF m 50 #[.val (.int p0), .val (.int p1), .val (.int p2), .val (.long p3), .second, .val (.int (1 : Int32)), .val (.int (1 : Int32)), .val (.double (FP.l2d p3)), .second, .val (.int (1 : Int32)), .unset, .unset, .unset, .unset, .unset] [(.double (FP.l2d p3))]) G
        obtain ⟨_, _, ⟨T10, L10, k10, n10⟩, -, X10, ⟨Lc10, hQ10, l10, y10, z10⟩, st10⟩ := Jvm.LawKit.callS X0 hx (y := (⟨"com/example/kereso/kereso/PageRank", "isDamping", "(D)Z"⟩ : MethodName)) hown (mvT hZ (hw _ (List.mem_of_getElem? (i := 0) rfl))) (mvT hZ (hw _ (List.mem_of_getElem? (i := 1) rfl))) (mvT hZ (hw _ (List.mem_of_getElem? (i := 2) rfl))) (mvT hZ (hw _ (List.mem_of_getElem? (i := 3) rfl))) (by decide) (backOf (W := 0) (dm1 l Z a0 hw [] (FP.l2d p3) h0 n0 Z0 (own_big_0 (own_lz bz)).1 (own_big_0 (own_lz bz)).2) hZ (hw _ (List.mem_of_getElem? (i := 3) rfl)) (hw _ (List.mem_of_getElem? (i := 2) rfl)) (by decide) (by decide)) (g := (mkF m 50 #[.val (.int p0), .val (.int p1), .val (.int p2), .val (.long p3), .second, .val (.int (1 : Int32)), .val (.int (1 : Int32)), .val (.double (FP.l2d p3)), .second, .val (.int (1 : Int32)), .unset, .unset, .unset, .unset, .unset] [(.double (FP.l2d p3))])) rfl (by rw [hml]; rfl) (argsL := [(.double (FP.l2d p3))]) (rest := []) (lenOf pd_0 rfl) rfl (by show 2 * 0 + _ ≤ _; exact Nat.le_of_eq rfl) (hb hby at_50) (fun _ _ => ⟨rfl, e0, (by decide : 0 + 0 ≤ _), (by decide : 0 + 0 ≤ _)⟩)
        dsimp only [Pt.U, Pt.locs, Pt.cells, Pt.slots] at X10 l10 y10 z10 st10 hQ10
        subst l10 y10 z10
        obtain ⟨rfl, N10q, eh10⟩ := hQ10
        have N10_ := Fr.app N0 N10q
        refine Gl.via (fun _ k => st10 _ k) ?_
        show Gl p.tables e below T10 (mkF m 53 #[.val (.int p0), .val (.int p1), .val (.int p2), .val (.long p3), .second, .val (.int (1 : Int32)), .val (.int (1 : Int32)), .val (.double (FP.l2d p3)), .second, .val (.int (1 : Int32)), .unset, .unset, .unset, .unset, .unset] [(.int (1 : Int32))]) G
        refine Gl.via (fun _ k => XS.iload X10.here hx rfl (hb hby at_53) rfl k) ?_
        show Gl p.tables e below T10 (mkF m 55 #[.val (.int p0), .val (.int p1), .val (.int p2), .val (.long p3), .second, .val (.int (1 : Int32)), .val (.int (1 : Int32)), .val (.double (FP.l2d p3)), .second, .val (.int (1 : Int32)), .unset, .unset, .unset, .unset, .unset] [(.int (1 : Int32)), (.int (1 : Int32))]) G
        refine Gl.via (fun _ k => XS.icmpNo X10.here hx rfl (hb hby at_55) rfl (teq (by decide)).2 k) ?_
        show Gl p.tables e below T10 (mkF m 58 #[.val (.int p0), .val (.int p1), .val (.int p2), .val (.long p3), .second, .val (.int (1 : Int32)), .val (.int (1 : Int32)), .val (.double (FP.l2d p3)), .second, .val (.int (1 : Int32)), .unset, .unset, .unset, .unset, .unset] []) G
        refine Gl.via (fun _ k => XS.iconst X10.here hx rfl (hb hby at_58) k) ?_
        show Gl p.tables e below T10 (mkF m 59 #[.val (.int p0), .val (.int p1), .val (.int p2), .val (.long p3), .second, .val (.int (1 : Int32)), .val (.int (1 : Int32)), .val (.double (FP.l2d p3)), .second, .val (.int (1 : Int32)), .unset, .unset, .unset, .unset, .unset] [(.int (1 : Int32))]) G
        refine Gl.via (fun _ k => XS.goto X10.here hx rfl (pc0 := 59) (pc' := 63) rfl (hb hby at_59) (by decide) (by decide) k) ?_
        show Gl p.tables e below T10 (mkF m 63 #[.val (.int p0), .val (.int p1), .val (.int p2), .val (.long p3), .second, .val (.int (1 : Int32)), .val (.int (1 : Int32)), .val (.double (FP.l2d p3)), .second, .val (.int (1 : Int32)), .unset, .unset, .unset, .unset, .unset] [(.int (1 : Int32))]) G
        obtain ⟨fs, hr, hrun, hended, hW, hsame⟩ := X10.leave (v := some (.int (1 : Int32))) (fun h => by rw [Bd.returns] at h; cases h)
        have hq : ∀ L, Fr n0 L → Q_rm0 Z p0 p1 p2 p3 h0 n0 (some (.int (1 : Int32))) T10.heap L := by
          intro L hN
          rw [eh10]
          exact ⟨rfl, hN⟩
        rw [hG]
        exact Gl.fin (retN X10 hx (t := .boolean) Bd.returns (by simp) (hb hby at_63) hr) ⟨_, hrun, hended, _, _, rfl, hq _ N10_, ⟨_, rfl⟩, hW, hsame.mono (by decide) (by decide)⟩
      · refine Gl.via (fun _ k => XS.ifYes X0.here hx rfl (pc0 := 38) (pc' := 45) rfl (hb hby at_38) rfl ((if0 _ _).trans (feq bz).2) (by decide) (by decide) k) ?_
        show Gl p.tables e below s₁ (mkF m 45 #[.val (.int p0), .val (.int p1), .val (.int p2), .val (.long p3), .second, .val (.int (1 : Int32)), .val (.int (1 : Int32)), .val (.double (FP.l2d p3)), .second, .unset, .unset, .unset, .unset, .unset, .unset] []) G
        refine Gl.via (fun _ k => XS.iconst X0.here hx rfl (hb hby at_45) k) ?_
        show Gl p.tables e below s₁ (mkF m 46 #[.val (.int p0), .val (.int p1), .val (.int p2), .val (.long p3), .second, .val (.int (1 : Int32)), .val (.int (1 : Int32)), .val (.double (FP.l2d p3)), .second, .unset, .unset, .unset, .unset, .unset, .unset] [(.int (0 : Int32))]) G
        refine Gl.via (fun _ k => XS.istore X0.here hx rfl (hb hby at_46) rfl (l' := #[.val (.int p0), .val (.int p1), .val (.int p2), .val (.long p3), .second, .val (.int (1 : Int32)), .val (.int (1 : Int32)), .val (.double (FP.l2d p3)), .second, .val (.int (0 : Int32)), .unset, .unset, .unset, .unset, .unset]) rfl k) ?_
        show Gl p.tables e below s₁ (mkF m 48 #[.val (.int p0), .val (.int p1), .val (.int p2), .val (.long p3), .second, .val (.int (1 : Int32)), .val (.int (1 : Int32)), .val (.double (FP.l2d p3)), .second, .val (.int (0 : Int32)), .unset, .unset, .unset, .unset, .unset] []) G
        by_cases bn : p3 < (0 : Int64)
        · refine Gl.via (fun _ k => XS.dload X0.here hx rfl (hb hby at_48) rfl k) ?_
          show Gl p.tables e below s₁ (mkF m 50 #[.val (.int p0), .val (.int p1), .val (.int p2), .val (.long p3), .second, .val (.int (1 : Int32)), .val (.int (1 : Int32)), .val (.double (FP.l2d p3)), .second, .val (.int (0 : Int32)), .unset, .unset, .unset, .unset, .unset] [(.double (FP.l2d p3))]) G
          obtain ⟨_, _, ⟨T11, L11, k11, n11⟩, -, X11, ⟨Lc11, hQ11, l11, y11, z11⟩, st11⟩ := Jvm.LawKit.callS X0 hx (y := (⟨"com/example/kereso/kereso/PageRank", "isDamping", "(D)Z"⟩ : MethodName)) hown (mvT hZ (hw _ (List.mem_of_getElem? (i := 0) rfl))) (mvT hZ (hw _ (List.mem_of_getElem? (i := 1) rfl))) (mvT hZ (hw _ (List.mem_of_getElem? (i := 2) rfl))) (mvT hZ (hw _ (List.mem_of_getElem? (i := 3) rfl))) (by decide) (backOf (W := 0) (dm0a l Z a0 hw [] (FP.l2d p3) h0 n0 Z0 (own_big_n (own_ln bn))) hZ (hw _ (List.mem_of_getElem? (i := 3) rfl)) (hw _ (List.mem_of_getElem? (i := 2) rfl)) (by decide) (by decide)) (g := (mkF m 50 #[.val (.int p0), .val (.int p1), .val (.int p2), .val (.long p3), .second, .val (.int (1 : Int32)), .val (.int (1 : Int32)), .val (.double (FP.l2d p3)), .second, .val (.int (0 : Int32)), .unset, .unset, .unset, .unset, .unset] [(.double (FP.l2d p3))])) rfl (by rw [hml]; rfl) (argsL := [(.double (FP.l2d p3))]) (rest := []) (lenOf pd_0 rfl) rfl (by show 2 * 0 + _ ≤ _; exact Nat.le_of_eq rfl) (hb hby at_50) (fun _ _ => ⟨rfl, e0, (by decide : 0 + 0 ≤ _), (by decide : 0 + 0 ≤ _)⟩)
          dsimp only [Pt.U, Pt.locs, Pt.cells, Pt.slots] at X11 l11 y11 z11 st11 hQ11
          subst l11 y11 z11
          obtain ⟨rfl, N11q, eh11⟩ := hQ11
          have N11_ := Fr.app N0 N11q
          refine Gl.via (fun _ k => st11 _ k) ?_
          show Gl p.tables e below T11 (mkF m 53 #[.val (.int p0), .val (.int p1), .val (.int p2), .val (.long p3), .second, .val (.int (1 : Int32)), .val (.int (1 : Int32)), .val (.double (FP.l2d p3)), .second, .val (.int (0 : Int32)), .unset, .unset, .unset, .unset, .unset] [(.int (0 : Int32))]) G
          refine Gl.via (fun _ k => XS.iload X11.here hx rfl (hb hby at_53) rfl k) ?_
          show Gl p.tables e below T11 (mkF m 55 #[.val (.int p0), .val (.int p1), .val (.int p2), .val (.long p3), .second, .val (.int (1 : Int32)), .val (.int (1 : Int32)), .val (.double (FP.l2d p3)), .second, .val (.int (0 : Int32)), .unset, .unset, .unset, .unset, .unset] [(.int (0 : Int32)), (.int (0 : Int32))]) G
          refine Gl.via (fun _ k => XS.icmpNo X11.here hx rfl (hb hby at_55) rfl (teq (by decide)).2 k) ?_
          show Gl p.tables e below T11 (mkF m 58 #[.val (.int p0), .val (.int p1), .val (.int p2), .val (.long p3), .second, .val (.int (1 : Int32)), .val (.int (1 : Int32)), .val (.double (FP.l2d p3)), .second, .val (.int (0 : Int32)), .unset, .unset, .unset, .unset, .unset] []) G
          refine Gl.via (fun _ k => XS.iconst X11.here hx rfl (hb hby at_58) k) ?_
          show Gl p.tables e below T11 (mkF m 59 #[.val (.int p0), .val (.int p1), .val (.int p2), .val (.long p3), .second, .val (.int (1 : Int32)), .val (.int (1 : Int32)), .val (.double (FP.l2d p3)), .second, .val (.int (0 : Int32)), .unset, .unset, .unset, .unset, .unset] [(.int (1 : Int32))]) G
          refine Gl.via (fun _ k => XS.goto X11.here hx rfl (pc0 := 59) (pc' := 63) rfl (hb hby at_59) (by decide) (by decide) k) ?_
          show Gl p.tables e below T11 (mkF m 63 #[.val (.int p0), .val (.int p1), .val (.int p2), .val (.long p3), .second, .val (.int (1 : Int32)), .val (.int (1 : Int32)), .val (.double (FP.l2d p3)), .second, .val (.int (0 : Int32)), .unset, .unset, .unset, .unset, .unset] [(.int (1 : Int32))]) G
          obtain ⟨fs, hr, hrun, hended, hW, hsame⟩ := X11.leave (v := some (.int (1 : Int32))) (fun h => by rw [Bd.returns] at h; cases h)
          have hq : ∀ L, Fr n0 L → Q_rm0 Z p0 p1 p2 p3 h0 n0 (some (.int (1 : Int32))) T11.heap L := by
            intro L hN
            rw [eh11]
            exact ⟨rfl, hN⟩
          rw [hG]
          exact Gl.fin (retN X11 hx (t := .boolean) Bd.returns (by simp) (hb hby at_63) hr) ⟨_, hrun, hended, _, _, rfl, hq _ N11_, ⟨_, rfl⟩, hW, hsame.mono (by decide) (by decide)⟩
        · refine Gl.via (fun _ k => XS.dload X0.here hx rfl (hb hby at_48) rfl k) ?_
          show Gl p.tables e below s₁ (mkF m 50 #[.val (.int p0), .val (.int p1), .val (.int p2), .val (.long p3), .second, .val (.int (1 : Int32)), .val (.int (1 : Int32)), .val (.double (FP.l2d p3)), .second, .val (.int (0 : Int32)), .unset, .unset, .unset, .unset, .unset] [(.double (FP.l2d p3))]) G
          obtain ⟨_, _, ⟨T12, L12, k12, n12⟩, -, X12, ⟨Lc12, hQ12, l12, y12, z12⟩, st12⟩ := Jvm.LawKit.callS X0 hx (y := (⟨"com/example/kereso/kereso/PageRank", "isDamping", "(D)Z"⟩ : MethodName)) hown (mvT hZ (hw _ (List.mem_of_getElem? (i := 0) rfl))) (mvT hZ (hw _ (List.mem_of_getElem? (i := 1) rfl))) (mvT hZ (hw _ (List.mem_of_getElem? (i := 2) rfl))) (mvT hZ (hw _ (List.mem_of_getElem? (i := 3) rfl))) (by decide) (backOf (W := 0) (dm0b l Z a0 hw [] (FP.l2d p3) h0 n0 Z0 (own_big_p (own_lp bn (own_lnz bz))).1 (own_big_p (own_lp bn (own_lnz bz))).2) hZ (hw _ (List.mem_of_getElem? (i := 3) rfl)) (hw _ (List.mem_of_getElem? (i := 2) rfl)) (by decide) (by decide)) (g := (mkF m 50 #[.val (.int p0), .val (.int p1), .val (.int p2), .val (.long p3), .second, .val (.int (1 : Int32)), .val (.int (1 : Int32)), .val (.double (FP.l2d p3)), .second, .val (.int (0 : Int32)), .unset, .unset, .unset, .unset, .unset] [(.double (FP.l2d p3))])) rfl (by rw [hml]; rfl) (argsL := [(.double (FP.l2d p3))]) (rest := []) (lenOf pd_0 rfl) rfl (by show 2 * 0 + _ ≤ _; exact Nat.le_of_eq rfl) (hb hby at_50) (fun _ _ => ⟨rfl, e0, (by decide : 0 + 0 ≤ _), (by decide : 0 + 0 ≤ _)⟩)
          dsimp only [Pt.U, Pt.locs, Pt.cells, Pt.slots] at X12 l12 y12 z12 st12 hQ12
          subst l12 y12 z12
          obtain ⟨rfl, N12q, eh12⟩ := hQ12
          have N12_ := Fr.app N0 N12q
          refine Gl.via (fun _ k => st12 _ k) ?_
          show Gl p.tables e below T12 (mkF m 53 #[.val (.int p0), .val (.int p1), .val (.int p2), .val (.long p3), .second, .val (.int (1 : Int32)), .val (.int (1 : Int32)), .val (.double (FP.l2d p3)), .second, .val (.int (0 : Int32)), .unset, .unset, .unset, .unset, .unset] [(.int (0 : Int32))]) G
          refine Gl.via (fun _ k => XS.iload X12.here hx rfl (hb hby at_53) rfl k) ?_
          show Gl p.tables e below T12 (mkF m 55 #[.val (.int p0), .val (.int p1), .val (.int p2), .val (.long p3), .second, .val (.int (1 : Int32)), .val (.int (1 : Int32)), .val (.double (FP.l2d p3)), .second, .val (.int (0 : Int32)), .unset, .unset, .unset, .unset, .unset] [(.int (0 : Int32)), (.int (0 : Int32))]) G
          refine Gl.via (fun _ k => XS.icmpNo X12.here hx rfl (hb hby at_55) rfl (teq (by decide)).2 k) ?_
          show Gl p.tables e below T12 (mkF m 58 #[.val (.int p0), .val (.int p1), .val (.int p2), .val (.long p3), .second, .val (.int (1 : Int32)), .val (.int (1 : Int32)), .val (.double (FP.l2d p3)), .second, .val (.int (0 : Int32)), .unset, .unset, .unset, .unset, .unset] []) G
          refine Gl.via (fun _ k => XS.iconst X12.here hx rfl (hb hby at_58) k) ?_
          show Gl p.tables e below T12 (mkF m 59 #[.val (.int p0), .val (.int p1), .val (.int p2), .val (.long p3), .second, .val (.int (1 : Int32)), .val (.int (1 : Int32)), .val (.double (FP.l2d p3)), .second, .val (.int (0 : Int32)), .unset, .unset, .unset, .unset, .unset] [(.int (1 : Int32))]) G
          refine Gl.via (fun _ k => XS.goto X12.here hx rfl (pc0 := 59) (pc' := 63) rfl (hb hby at_59) (by decide) (by decide) k) ?_
          show Gl p.tables e below T12 (mkF m 63 #[.val (.int p0), .val (.int p1), .val (.int p2), .val (.long p3), .second, .val (.int (1 : Int32)), .val (.int (1 : Int32)), .val (.double (FP.l2d p3)), .second, .val (.int (0 : Int32)), .unset, .unset, .unset, .unset, .unset] [(.int (1 : Int32))]) G
          obtain ⟨fs, hr, hrun, hended, hW, hsame⟩ := X12.leave (v := some (.int (1 : Int32))) (fun h => by rw [Bd.returns] at h; cases h)
          have hq : ∀ L, Fr n0 L → Q_rm0 Z p0 p1 p2 p3 h0 n0 (some (.int (1 : Int32))) T12.heap L := by
            intro L hN
            rw [eh12]
            exact ⟨rfl, hN⟩
          rw [hG]
          exact Gl.fin (retN X12 hx (t := .boolean) Bd.returns (by simp) (hb hby at_63) hr) ⟨_, hrun, hended, _, _, rfl, hq _ N12_, ⟨_, rfl⟩, hW, hsame.mono (by decide) (by decide)⟩
set_option maxRecDepth 65536 in
set_option maxHeartbeats 40000000 in
theorem comes_1 {Post : Tables → Env → Array Value → State → Outcome → State → Prop} (hpost : ∀ tb e args s v u, (limb_1_1.after args s (.returned v) u = true ∧ limb_1_2.after args s (.returned v) u = true ∧ True) → FrameEnd s (.returned v) u (Jvm.fieldLocs frame_1_writes args s ++ Jvm.arrayLocs frame_1_arrays args s ++ Jvm.staticLocs frame_1_statics s) 0 0 → Post tb e args s (.returned v) u) :
    ArmFor flags0 classFile x code maxLocals ret World_1 tables_1 room_1 Calls_1 rest_1 Pre_1 Post := by
  intro l hfl _ _ p e ha hc hk s m args below hf hA hF happ hP
  obtain ⟨hcalls, hrest, hpre⟩ := hP
  obtain ⟨-, -, -, hnamed, -, -, -, hat⟩ := (Spec.applies_iff hf).mp happ
  obtain ⟨hg, hn⟩ := and_e (Cond.before_iff.mp (show (Jvm.Cond.and given_1 narrow_1).before args s = true from hpre))
  obtain ⟨g1, g2⟩ := and_e hg
  obtain ⟨g3, g4⟩ := and_e g2
  obtain ⟨g5, g6⟩ := and_e g4
  obtain ⟨g7, g8⟩ := and_e g6
  obtain ⟨w0, w1, w2, w3, rfl⟩ : ∃ w0 w1 w2 w3 : Value, args = #[w0, w1, w2, w3] := by
    have hs : args.size = 4 := by simpa [Cond.value, given_1] using g1
    obtain ⟨L⟩ := args
    match L, hs with
    | [w0, w1, w2, w3], _ => exact ⟨w0, w1, w2, w3, rfl⟩
  have hw := fun d (hd : d ∈ tables_1) => atoms_spec (ws := Jvm.Cond.code x code maxLocals ret :: tables_1) hat d (List.mem_cons_of_mem _ hd)
  have hfit : Fit s := fun {y c} hc i hi => by
    obtain ⟨ha, rfl⟩ := Array.getElem?_eq_some_iff.mp hc
    have q := List.all_eq_true.mp ((Array.all_eq_true_iff_forall_mem.mp hF) _ (Array.getElem_mem ha)) i (List.mem_range.mpr hi)
    simpa [Array.getElem?_eq_getElem hi] using q
  obtain ⟨i0, ei0⟩ := is_v g3
  obtain rfl : w0 = (.int i0) := Option.some.inj ei0
  obtain ⟨i1, ei1⟩ := is_v g5
  obtain rfl : w1 = (.int i1) := Option.some.inj ei1
  obtain ⟨i2, ei2⟩ := is_v g7
  obtain rfl : w2 = (.int i2) := Option.some.inj ei2
  obtain ⟨i3, ei3⟩ := isL_v g8
  obtain rfl : w3 = (.long i3) := Option.some.inj ei3
  obtain ⟨n, o, h1, h2, h3, _, L, rfl, ⟨rfl, N⟩, hq⟩ := rm0 l s _ hw tables_1 i0 i1 i2 i3 s.heap s.heap.size (Nat.le_refl _)  p e ha hc hk s m _ below hf ((Spec.applies_iff_loose hf).mp happ).1 ⟨rfl, State.Warmed39.refl s, rfl⟩ trivial
  refine ⟨n, _, h1, h2, h3, hpost _ _ _ _ _ _ ⟨Cond.after_iff.mpr rfl, Cond.after_iff.mpr (eq_i res_at (Term.int_eval (1)) rfl), trivial⟩ ⟨hq.1, hq.2.1, (hq.2.2.sift fun y hy => Or.inr (N y hy)).mono (by decide) (by decide)⟩⟩
theorem main_1_1 : Claimed_1_1 := comes_1 fun _ _ _ _ _ _ h hF => ⟨h.1, hF⟩
theorem main_1_2 : Claimed_1_2 := comes_1 fun _ _ _ _ _ _ h hF => ⟨h.2.1, hF⟩
end Jvm.Pilot.@@N@@
namespace Jvm.Pilot.@@N@@
open Jvm Jvm.ClassFile Sem Op Lib Jvm.Free Jvm.Stand Jvm.Pilot.@@N@@.Jvm.D
/-! MADE BY PROGRAM (witnessworld.py) out of the Statement's table words and the real class files: 9 classes; the members and pool entries that the words name. The judged class is class 1, her method 1. -/
namespace start1
open Jvm.ClassFile
def u (s : String) : CpInfo := .utf8 (stringToUtf16 s)
/-- a pool by its gaps: so many unusable entries, then the entry; so many at the end -/
def gap : Nat → List CpInfo → List CpInfo
  | 0, r => r
  | n + 1, r => .unusable :: gap n r
def poolList (es : List (Nat × CpInfo)) (last : Nat) : List CpInfo := es.foldr (fun e r => gap e.1 (e.2 :: r)) (gap last [])
def pool (es : List (Nat × CpInfo)) (last : Nat) : Array CpInfo := ⟨poolList es last⟩
def fileOf (pool : Array CpInfo) (this : Nat) (attrs : Array Attribute := #[]) (ms : Array MethodInfo := #[]) (fl : Nat := 33) (sup : Nat := 0) (ifs : Array Nat := #[]) (fds : Array FieldInfo := #[]) : ClassFile where
  minorVersion := 0
  majorVersion := 65
  constantPool := pool
  accessFlags := fl
  thisClass := this
  superClass := sup
  interfaces := ifs
  fields := fds
  methods := ms
  attributes := attrs
def plain (name : String) (sup : Option ClassId) : Class where
  name := name
  kind := .ordinary
  loader := none
  accessFlags := 33
  super := sup
  interfaces := #[]
  cf := none
  fields := #[]
  methods := #[]
  instanceTypes := #[]
  staticTypes := #[]
  resolved := #[]
  callSites := []
  init := .initialized
  statics := none
  mirror := none

def pool0 : Array CpInfo := pool [(5, u "<init>"), (0, u "()V"), (1, .class_ 10), (1, u "java/lang/Object")] 113

def k0m0 : Method := { name := "<init>", desc := "()V", sig := { parameters := [], returnType := none }, accessFlags := 1, code := none }
/-- java/lang/Object -/
def k0 : Class := { plain "java/lang/Object" none with
  accessFlags := 33
  interfaces := #[]
  cf := some (fileOf pool0 8 #[] #[{ accessFlags := 1, nameIndex := 5, descriptorIndex := 6, attributes := #[] }] 33 0 #[] #[])
  fields := #[]
  methods := #[k0m0]
  instanceTypes := #[]
  staticTypes := #[]
  resolved := Array.replicate 124 none
  statics := none }

def pool1 : Array CpInfo := pool [(2, .class_ 4), (1, u "java/lang/Object"), (0, u "<init>"), (0, u "()V"), (0, .methodref 8 9), (0, .class_ 10), (0, .nameAndType 11 12), (0, u "com/example/kereso/kereso/PageRank"), (0, u "isDamping"), (0, u "(D)Z"), (0, .integer 1048576), (0, .integer 1048575), (0, .class_ 16), (0, u "com/example/kereso/kereso/PageRankIsDampingPinLaw"), (2, u "law"), (0, u "(IIIJ)Z")] 3

def k1m0 : Method := { name := "<init>", desc := "()V", sig := { parameters := [], returnType := none }, accessFlags := 1, code := none }
def k1c1 : Code := { maxStack := 4, maxLocals := 15, code := code, exceptionTable := #[], attributes := #[] }
def k1m1 : Method := { name := "law", desc := "(IIIJ)Z", sig := { parameters := [.int, .int, .int, .long], returnType := some .boolean }, accessFlags := 9, code := some k1c1 }
/-- com/example/kereso/kereso/PageRankIsDampingPinLaw -/
def k1 : Class := { plain "com/example/kereso/kereso/PageRankIsDampingPinLaw" (some 0) with
  accessFlags := 49
  interfaces := #[]
  cf := some (fileOf pool1 15 #[] #[{ accessFlags := 1, nameIndex := 5, descriptorIndex := 6, attributes := #[] }, { accessFlags := 9, nameIndex := 19, descriptorIndex := 20, attributes := #[] }] 49 2 #[] #[])
  fields := #[]
  methods := #[k1m0, k1m1]
  instanceTypes := #[]
  staticTypes := #[]
  resolved := Array.replicate 24 none
  statics := none }

def pool2 : Array CpInfo := pool [(2, .class_ 4), (1, u "java/lang/Object"), (0, u "<init>"), (0, u "()V"), (1, .class_ 10), (1, u "com/example/kereso/kereso/PageRank"), (0, u "isDamping"), (0, u "(D)Z"), (59, u "DEFAULT_DAMPING"), (0, u "D"), (3, u "TOLERANCE"), (0, u "MAX_STEPS"), (0, u "I"), (0, u "ROUNDING"), (0, u "OPERATIONS")] 29

def k2m0 : Method := { name := "<init>", desc := "()V", sig := { parameters := [], returnType := none }, accessFlags := 2, code := none }
def k2c1 : Code := { maxStack := 4, maxLocals := 2, code := prog_26_method_2_code, exceptionTable := #[], attributes := #[] }
def k2m1 : Method := { name := "isDamping", desc := "(D)Z", sig := { parameters := [.double], returnType := some .boolean }, accessFlags := 8, code := some k2c1 }
/-- com/example/kereso/kereso/PageRank -/
def k2 : Class := { plain "com/example/kereso/kereso/PageRank" (some 0) with
  accessFlags := 32
  interfaces := #[]
  cf := some (fileOf pool2 8 #[] #[{ accessFlags := 2, nameIndex := 5, descriptorIndex := 6, attributes := #[] }, { accessFlags := 8, nameIndex := 11, descriptorIndex := 12, attributes := #[] }] 32 2 #[] #[{ accessFlags := 24, nameIndex := 72, descriptorIndex := 73, attributes := #[] }, { accessFlags := 24, nameIndex := 77, descriptorIndex := 73, attributes := #[] }, { accessFlags := 24, nameIndex := 78, descriptorIndex := 79, attributes := #[] }, { accessFlags := 26, nameIndex := 80, descriptorIndex := 73, attributes := #[] }, { accessFlags := 26, nameIndex := 81, descriptorIndex := 79, attributes := #[] }])
  fields := #[{ name := "DEFAULT_DAMPING", type := .double, accessFlags := 24, slot := 0, constantValue := 0 }, { name := "TOLERANCE", type := .double, accessFlags := 24, slot := 1, constantValue := 0 }, { name := "MAX_STEPS", type := .int, accessFlags := 24, slot := 2, constantValue := 0 }, { name := "ROUNDING", type := .double, accessFlags := 26, slot := 3, constantValue := 0 }, { name := "OPERATIONS", type := .int, accessFlags := 26, slot := 4, constantValue := 0 }]
  methods := #[k2m0, k2m1]
  instanceTypes := #[]
  staticTypes := #[.double, .double, .int, .double, .int]
  resolved := Array.replicate 111 none
  statics := none }

def pool3 : Array CpInfo := pool [(1, u "java/lang/Cloneable"), (0, .class_ 1), (0, u "java/lang/Object"), (0, .class_ 3)] 3

/-- java/lang/Cloneable -/
def k3 : Class := { plain "java/lang/Cloneable" (some 0) with
  accessFlags := 1537
  interfaces := #[]
  cf := some (fileOf pool3 2 #[] #[] 1537 4 #[] #[])
  fields := #[]
  methods := #[]
  instanceTypes := #[]
  staticTypes := #[]
  resolved := Array.replicate 8 none
  statics := none }

def pool4 : Array CpInfo := pool [(1, u "java/io/Serializable"), (0, .class_ 1), (0, u "java/lang/Object"), (0, .class_ 3)] 3

/-- java/io/Serializable -/
def k4 : Class := { plain "java/io/Serializable" (some 0) with
  accessFlags := 1537
  interfaces := #[]
  cf := some (fileOf pool4 2 #[] #[] 1537 4 #[] #[])
  fields := #[]
  methods := #[]
  instanceTypes := #[]
  staticTypes := #[]
  resolved := Array.replicate 8 none
  statics := none }

/-- the primitive byte -/
def k5 : Class := { plain "byte" none with kind := .primitive 'B', accessFlags := 0x411 }
/-- [B -/
def k6 : Class := { plain "[B" (some 0) with kind := .array 5 .byte, interfaces := #[3, 4], accessFlags := 1041 }

/-- the primitive int -/
def k7 : Class := { plain "int" none with kind := .primitive 'I', accessFlags := 0x411 }
/-- [I -/
def k8 : Class := { plain "[I" (some 0) with kind := .array 7 .int, interfaces := #[3, 4], accessFlags := 1041 }

def heap : Heap := #[]
def classes : Array Class := #[k0, k1, k2, k3, k4, k5, k6, k7, k8]
def interned : List (Array UInt16 × Addr) := []
def slotsUsed : Nat := 0
def theMethod : MethodId := ⟨1, 1⟩
def args0 : Array Value := #[.int 5, .int 7, .int 2, .long 9]
def aboutOver (below : List Frame) : State where
  vm := { classes := classes, interned := interned.toArray }
  heap := heap
  slotsUsed := slotsUsed
  threads := #[{ frames := .invoking theMethod args0 :: below }]
def below0 : List Frame := [.native { method := ⟨0, 0⟩, args := #[] }]
def about1 : State := aboutOver below0
def p0 : Program := .bare "" "" ""
def e0 : Env := launch0.env 0 0 0
theorem w_frames : about1.frames = Frame.invoking theMethod args0 :: below0 := rfl
set_option maxRecDepth 65536 in
theorem w_args : argsFit about1.vm theMethod args0 = true := by decide +kernel
set_option maxRecDepth 65536 in
theorem w_heap : heapFits about1 = true := by decide +kernel
set_option maxRecDepth 65536 in
theorem w_runnable : about1.curStatus? = some .runnable := by decide +kernel
set_option maxRecDepth 65536 in
theorem w_alone : about1.alone = true := by decide +kernel
set_option maxRecDepth 65536 in
theorem w_named : about1.methodNamed? x = some theMethod := by decide +kernel
set_option maxRecDepth 65536 in
theorem w_hears : about1.hears theMethod below0 = true := by decide +kernel
set_option maxRecDepth 65536 in
theorem w_ripe : about1.ripe theMethod args0 below0 = true := by decide +kernel
theorem w_running : about1.status = .running := rfl
set_option maxRecDepth 65536 in
theorem w_room : about1.hasRoom e0.platform room_1 = true :=
  launch0.hasRoom_least _ room_1 (by decide +kernel) (by decide +kernel) (by decide +kernel) (by decide +kernel) (by decide +kernel) (by decide +kernel)
theorem allAtoms_all (ts : List Jvm.Cond) (a : Array Jvm.Value) (st : Jvm.State) : (allAtoms ts).before a st = ts.all (fun c => c.before a st) := by
  induction ts with
  | nil => rfl
  | cons c t ih =>
    show (Jvm.Cond.and c (allAtoms t)).before a st = _
    rw [Jvm.Cond.before_and, ih, List.all_cons]
def words1 : List Jvm.Cond := Jvm.Cond.code x code maxLocals ret :: tables_1
/-- a 'code' word, met by the world's own term for the bytes: nothing is compared byte by byte -/
theorem code_word {y : MethodName} {bytes : ByteArray} {mx : Nat} {rt : Option FieldType} {a : Array Value} {s : State} {m : MethodId} {meth : Method} {c : Code} (h1 : s.methodNamed? y = some m) (h2 : s.vm.method? m = some meth) (h3 : meth.code = some c) (h4 : c.code = bytes)
    (h5 : (c.maxLocals == mx && c.exceptionTable.isEmpty && decide (c.maxStack ≤ mostOperands) && decide (meth.sig.returnType = rt) && !meth.locks && decide (parseMethodDescriptor y.desc = some meth.sig)) = true) : (Jvm.Cond.code y bytes mx rt).before a s = true := by
  simp only [Bool.and_eq_true, beq_iff_eq, Bool.not_eq_true', decide_eq_true_eq] at h5
  obtain ⟨⟨⟨⟨⟨g1, g2⟩, g3⟩, g4⟩, g5⟩, g6⟩ := h5
  simp [Cond.before, Cond.holds, Cond.value, h1, h2, h3, h4, g1, g2, g3, g4, g5, g6]
def isCode : Jvm.Cond → Bool
  | .code _ _ _ _ => true
  | _ => false
theorem all_split {L : List Jvm.Cond} {P : Jvm.Cond → Bool} (h1 : L.all (fun c => isCode c || P c) = true) (h2 : ∀ c ∈ L.filter isCode, P c = true) : L.all P = true := by
  refine List.all_eq_true.mpr fun c hc => ?_
  have h := List.all_eq_true.mp h1 c hc
  rcases Bool.eq_false_or_eq_true (isCode c) with hi | hi
  · exact h2 c (List.mem_filter.mpr ⟨hc, hi⟩)
  · simpa [hi] using h
set_option maxRecDepth 65536 in
theorem w_c0 : (Jvm.Cond.code x code maxLocals ret).before args0 about1 = true := code_word (m := ⟨1, 1⟩) (meth := k1m1) (c := k1c1) (by decide +kernel) rfl rfl rfl (by decide +kernel)
set_option maxRecDepth 65536 in
theorem w_c1 : (Jvm.Cond.code ({ cls := "com/example/kereso/kereso/PageRank", name := "isDamping", desc := "(D)Z" } : Jvm.MethodName) prog_26_method_2_code (2 : Nat) (Option.some Jvm.ClassFile.FieldType.boolean)).before args0 about1 = true := code_word (m := ⟨2, 1⟩) (meth := k2m1) (c := k2c1) (by decide +kernel) rfl rfl rfl (by decide +kernel)
def codes1 : List Jvm.Cond := [Jvm.Cond.code x code maxLocals ret, Jvm.Cond.code ({ cls := "com/example/kereso/kereso/PageRank", name := "isDamping", desc := "(D)Z" } : Jvm.MethodName) prog_26_method_2_code (2 : Nat) (Option.some Jvm.ClassFile.FieldType.boolean)]
set_option maxRecDepth 65536 in
theorem codes_eq : words1.filter isCode = codes1 := rfl
theorem w_codes : ∀ c ∈ words1.filter isCode, c.before args0 about1 = true := by
  rw [codes_eq]
  intro c hc
  simp only [codes1, List.mem_cons, List.not_mem_nil, or_false] at hc
  rcases hc with rfl | rfl
  · exact w_c0
  · exact w_c1
set_option maxRecDepth 65536 in
theorem w_t1 : words1.all (fun c => isCode c || c.before args0 about1) = true := by decide +kernel
theorem w_tables : (allAtoms (Jvm.Cond.code x code maxLocals ret :: tables_1)).before args0 about1 = true := by
  rw [allAtoms_all]
  show words1.all (fun c => c.before args0 about1) = true
  refine all_split ?_ w_codes
  rw [w_t1]
set_option maxRecDepth 65536 in
theorem w_case : (Jvm.Cond.and given_1 narrow_1).before args0 about1 = true := by decide +kernel
theorem w_applies : (headSpec (Jvm.Cond.code x code maxLocals ret :: tables_1) room_1).applies x e0.platform about1 = true :=
  (Spec.applies_iff w_frames).mpr ⟨w_running, w_runnable, w_alone, w_named, w_hears, w_ripe, w_room, w_tables⟩
theorem atStart : AtStart classFile x code maxLocals ret World_1 tables_1 room_1 Calls_1 rest_1 Pre_1 launch0 p0 e0 about1 theMethod args0 below0 :=
  ⟨lists_1, trivial, launch0.admits_env _ _ _, launch0.least_env, fairChoices_fair.cas, fairChoices_fair.clock, w_frames, w_args, w_heap, w_applies, trivial, trivial, w_case⟩
end start1
theorem witness_1 : WitnessClaimed_1 := ⟨start1.p0, start1.e0, start1.about1, start1.theMethod, start1.args0, start1.below0, start1.atStart⟩
end Jvm.Pilot.@@N@@
