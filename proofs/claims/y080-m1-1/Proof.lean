import JvmDerived
import JvmDerived.Pilot.@@N@@Statement
import JvmDerived.Pilot.@@N@@Code
set_option linter.unusedVariables false
set_option linter.unusedSimpArgs false
namespace Jvm.Pilot.@@N@@
open Jvm Jvm.ClassFile Sem Op Lib Jvm.Free Jvm.Stand Jvm.LawKit Jvm.RoadKit Jvm.Free.Fl Bundle Jvm.Pilot.@@N@@.Jvm.D
/-- from here the run comes to some end at which G holds -/
def Gl (tb : Tables) (e : Env) (below : List Frame) (T : State) (g : JFrame) (G : State → Prop) : Prop := ∃ s₂, Steps tb e below (T.setTop g) s₂ ∧ G s₂
theorem Gl.via {tb : Tables} {e : Env} {below : List Frame} {T T' : State} {g g' : JFrame} {G : State → Prop} (st : ∀ t, Steps tb e below (T'.setTop g') t → Steps tb e below (T.setTop g) t) (k : Gl tb e below T' g' G) : Gl tb e below T g G := by
  obtain ⟨s₂, h1, h2⟩ := k
  exact ⟨s₂, st _ h1, h2⟩
theorem Gl.fin {tb : Tables} {e : Env} {below : List Frame} {T U : State} {g : JFrame} {G : State → Prop} (st : Steps tb e below (T.setTop g) U) (k : G U) : Gl tb e below T g G := ⟨U, st, k⟩
section OwnFP
open Jvm.FP.Core (zmag zval val64 b64 DInt one64 sgn signed inUnits Datum roundRatio quotient good_b64 val64_fits DInt_zval whole_sign whole_zero natAbs_signed qmin_b64 pow_qmin64 zmag_roundRatio_le zmag_roundRatio_ge sgn_roundRatio dcmp_zval compare_lt_iff compare_eq_iff compare_gt_iff one64_pos zval64_zero zval_negate Whole DInt_ne_nan)
theorem own_fin {i : Int} {x : UInt64} (h : DInt i x) : ∃ s c q, val64 x = .fin s c q ∧ b64.qmin ≤ q ∧ c * 2 ^ (q - b64.qmin).toNat = i.natAbs * one64 ∧ (i ≠ 0 → s = decide (i < 0)) ∧ (c = 0 ↔ i = 0) := by
  have hf := val64_fits x
  have hz := DInt_zval h
  have h' : Whole i (val64 x) := h
  generalize val64 x = v at hf hz h'
  cases v with
  | nan => exact h'.elim
  | inf s => exact h'.elim
  | fin s c q =>
    refine ⟨s, c, q, rfl, hf.2.1, ?_, fun hi => whole_sign h' hi, whole_zero h'⟩
    have e := congrArg Int.natAbs (show signed s (c * 2 ^ (q - b64.qmin).toNat) = i * (one64 : Int) from hz)
    rw [natAbs_signed, Int.natAbs_mul, Int.natAbs_natCast] at e
    exact e
theorem own_cmp {v w : UInt64} (hv : val64 v ≠ .nan) (hw : val64 w ≠ .nan) (o : CmpOp) : (zval b64 (val64 v) < zval b64 (val64 w) → cmpValue (FP.dcmp v w) o = -1) ∧ (zval b64 (val64 v) = zval b64 (val64 w) → cmpValue (FP.dcmp v w) o = 0) ∧ (zval b64 (val64 w) < zval b64 (val64 v) → cmpValue (FP.dcmp v w) o = 1) := by
  have e : FP.dcmp v w = some (compare (zval b64 (val64 v)) (zval b64 (val64 w))) := dcmp_zval hv hw
  refine ⟨fun h => ?_, fun h => ?_, fun h => ?_⟩
  · rw [e, (compare_lt_iff _ _).mpr h]; rfl
  · rw [e, (compare_eq_iff _ _).mpr h]; rfl
  · rw [e, (compare_gt_iff _ _).mpr h]; rfl
end OwnFP

section OwnSum
open Jvm.FP.Core (zmag zval val64 b64 DInt one64 sgn signed inUnits Datum round good_b64 val64_fits DInt_zval qmin_b64 pow_qmin64 round_exact round_fits zval_round_le zval_round_ge zmag_lt_top sum_le sum_ge product_units exactProduct exactSum negate negate_fits zval_negate val64_dsub val64_dadd val64_dmul signed_mul one64_pos)
theorem own_rep (k : Int) (e : Nat) (hk : k.natAbs < 2 ^ 53) (he : e ≤ 1500) : ∃ V, (∃ s c q, V = Datum.fin s c q) ∧ Jvm.FP.Core.fits b64 V ∧ zval b64 V = k * ((2 ^ e : Nat) : Int) := by
  have hq := qmin_b64
  have hm : b64.qmax = 971 := by decide +kernel
  have hp : b64.p = 53 := rfl
  obtain ⟨c', q', h1, h2⟩ := round_exact good_b64 (decide (k < 0)) (c := k.natAbs) (q := (e : Int) - 1074) (by rw [hp]; exact hk) (by omega) (by omega)
  refine ⟨round b64 (.fin (decide (k < 0)) k.natAbs ((e : Int) - 1074)), ⟨_, _, _, h1⟩, round_fits good_b64 _, ?_⟩
  rw [h1]
  show signed (decide (k < 0)) (inUnits c' q' b64.qmin) = _
  rw [h2]
  show signed (decide (k < 0)) (k.natAbs * 2 ^ ((e : Int) - 1074 - b64.qmin).toNat) = _
  rw [show ((e : Int) - 1074 - b64.qmin).toNat = e by omega, signed_mul]
  congr 1
  by_cases h : k < 0
  · rw [decide_eq_true h]; show -(k.natAbs : Int) = k; omega
  · rw [decide_eq_false h]; show (k.natAbs : Int) = k; omega
theorem own_nn {V : Datum} (h : ∃ s c q, V = Datum.fin s c q) : V ≠ .nan := by
  obtain ⟨s, c, q, rfl⟩ := h
  exact Datum.noConfusion
theorem own_fin_of {d V : Datum} (hd : Jvm.FP.Core.fits b64 d) (nd : d ≠ .nan) (hV : ∃ s c q, V = Datum.fin s c q) (fV : Jvm.FP.Core.fits b64 V) (e : zval b64 d = zval b64 V) : ∃ s c q, d = Datum.fin s c q := by
  cases d with
  | nan => exact absurd rfl nd
  | fin s c q => exact ⟨s, c, q, rfl⟩
  | inf s =>
    exfalso
    obtain ⟨t, c, q, rfl⟩ := hV
    have h1 := zmag_lt_top good_b64 fV
    have h2 := congrArg Int.natAbs (show signed s (b64.tails * 2 ^ (b64.exps - 2)) = signed t (inUnits c q b64.qmin) from e)
    rw [FP.Core.natAbs_signed, FP.Core.natAbs_signed] at h2
    omega
/-- v is k units of 2^(e - 1074) -/
def OwnU (k : Int) (e : Nat) (v : UInt64) : Prop := (∃ s c q, val64 v = Datum.fin s c q) ∧ zval b64 (val64 v) = k * ((2 ^ e : Nat) : Int)
theorem OwnU.nn {k : Int} {e : Nat} {v : UInt64} (h : OwnU k e v) : val64 v ≠ .nan := own_nn h.1
theorem own_sq {x V : Datum} (hx : Jvm.FP.Core.fits b64 x) (nx : x ≠ .nan) (hV : ∃ s c q, V = Datum.fin s c q) (fV : Jvm.FP.Core.fits b64 V) (h1 : zval b64 x ≤ zval b64 V) (h2 : zval b64 V ≤ zval b64 x) : (∃ s c q, x = Datum.fin s c q) ∧ zval b64 x = zval b64 V :=
  have e := Int.le_antisymm h1 h2
  ⟨own_fin_of hx nx hV fV e, e⟩
theorem own_sum_nn {x y : Datum} (hx : ∃ s c q, x = Datum.fin s c q) (hy : ∃ s c q, y = Datum.fin s c q) : round b64 (exactSum x y) ≠ .nan := by
  obtain ⟨s, c, q, rfl⟩ := hx
  obtain ⟨t, d, r, rfl⟩ := hy
  exact fun h => Datum.noConfusion (FP.Core.round_nan.mp h)
theorem own_neg_fin {y : Datum} (hy : ∃ s c q, y = Datum.fin s c q) : ∃ s c q, negate y = Datum.fin s c q := by
  obtain ⟨t, d, r, rfl⟩ := hy
  exact ⟨!t, d, r, rfl⟩
theorem own_sub {i j : Int} {e : Nat} {x y : UInt64} (hx : OwnU i e x) (hy : OwnU j e y) (h : (i - j).natAbs < 2 ^ 53) (he : e ≤ 1500) : OwnU (i - j) e (FP.dsub x y) := by
  obtain ⟨V, hV, fV, zV⟩ := own_rep (i - j) e h he
  have hv : val64 (FP.dsub x y) = round b64 (exactSum (val64 x) (negate (val64 y))) := val64_dsub x y
  have hy' := own_neg_fin hy.1
  have hs : zval b64 (val64 x) + zval b64 (negate (val64 y)) = zval b64 V := by rw [zval_negate, hx.2, hy.2, zV, Int.sub_mul]; omega
  have q1 := sum_le good_b64 hx.1 hy' (val64_fits x) (negate_fits (val64_fits y)) fV (own_nn hV) (Int.le_of_eq hs)
  have q2 := sum_ge good_b64 hx.1 hy' (val64_fits x) (negate_fits (val64_fits y)) fV (own_nn hV) (Int.le_of_eq hs.symm)
  unfold OwnU
  rw [hv, ← zV]
  exact own_sq (round_fits good_b64 _) (own_sum_nn hx.1 hy') hV fV q1 q2
theorem own_dint {i : Int} {x : UInt64} (h : DInt i x) : OwnU i 1074 x := by
  obtain ⟨s, c, q, h1, -⟩ := own_fin h
  exact ⟨⟨s, c, q, h1⟩, DInt_zval h⟩
theorem own_coarse {n : Int64} (h : n.toInt.natAbs ≤ 2 ^ 53) : OwnU n.toInt 1074 (FP.dmul (FP.l2d n) FP.dconst1) := by
  have hd : DInt n.toInt (FP.l2d n) := FP.Core.l2d_int h
  have e : FP.dmul (FP.l2d n) FP.dconst1 = FP.l2d n := FP.Core.dmul_one (FP.Core.DInt_ne_nan hd)
  rw [e]
  exact own_dint hd
theorem own_unit : val64 4463067230724161536 = .fin false (2 ^ 52) (-84) := by decide +kernel
theorem own_unit_z : zmag b64 (.fin false (2 ^ 52) (-84)) = 2 ^ 1042 := by decide +kernel
theorem own_unit_fin : Fin64 (4463067230724161536 : UInt64) := by unfold Fin64; decide
theorem own_one_fin : Fin64 FP.dconst1 := by unfold Fin64 FP.dconst1; decide
theorem own_fine {n : Int64} (h : n.toInt.natAbs < 2 ^ 53) : OwnU n.toInt 1042 (FP.dmul (FP.l2d n) (4463067230724161536 : UInt64)) := by
  have hd : DInt n.toInt (FP.l2d n) := FP.Core.l2d_int (Nat.le_of_lt h)
  obtain ⟨V, hV, fV, zV⟩ := own_rep n.toInt 1042 h (by omega)
  obtain ⟨s, c, q, h1, -⟩ := own_fin hd
  have hz := DInt_zval hd
  have fx := val64_fits (FP.l2d n)
  have fu := val64_fits (4463067230724161536 : UInt64)
  have hv : val64 (FP.dmul (FP.l2d n) (4463067230724161536 : UInt64)) = round b64 (exactProduct (val64 (FP.l2d n)) (val64 4463067230724161536)) := val64_dmul _ _
  rw [h1] at fx hz
  rw [own_unit] at fu
  obtain ⟨p1, p2, p3⟩ := product_units fx fu
  rw [h1, own_unit, p1] at hv
  rw [own_unit_z] at p3
  have hq := qmin_b64
  have key : signed (s != false) (inUnits (c * 2 ^ 52) (q + (-84)) (2 * b64.qmin)) = zval b64 V * ((2 ^ (b64.qmin - 2 * b64.qmin).toNat : Nat) : Int) := by
    rw [p3, signed_mul, show (s != false) = s by cases s <;> rfl, show (b64.qmin - 2 * b64.qmin).toNat = (-b64.qmin).toNat by omega, pow_qmin64, zV]
    show zval b64 (.fin s c q) * _ = _
    rw [hz, Int.mul_assoc, Int.mul_assoc, Int.mul_comm (one64 : Int)]
  have q1 := zval_round_le good_b64 fV (own_nn hV) (e0 := 2 * b64.qmin) (by omega) p2 (Int.le_of_eq key)
  have q2 := zval_round_ge good_b64 fV (own_nn hV) (e0 := 2 * b64.qmin) (by omega) p2 (Int.le_of_eq key.symm)
  unfold OwnU
  rw [hv, ← zV]
  exact own_sq (round_fits good_b64 _) (fun z => Datum.noConfusion (FP.Core.round_nan.mp z)) hV fV q1 q2
theorem own_lt {i j : Int} {e : Nat} {x y : UInt64} (hx : OwnU i e x) (hy : OwnU j e y) (o : CmpOp) : cmpValue (FP.dcmp x y) o < (0 : Int32) ↔ i < j := by
  obtain ⟨c1, c2, c3⟩ := own_cmp hx.nn hy.nn o
  have hp : (0 : Int) < ((2 ^ e : Nat) : Int) := Int.ofNat_lt.mpr (Nat.two_pow_pos e)
  rw [hx.2, hy.2] at c1 c2 c3
  generalize ((2 ^ e : Nat) : Int) = P at *
  by_cases h : i < j
  · rw [c1 (Int.mul_lt_mul_of_pos_right h hp)]
    exact ⟨fun _ => h, fun _ => by decide⟩
  · refine ⟨fun q => absurd q ?_, fun q => absurd q h⟩
    by_cases h2 : i = j
    · rw [c2 (by rw [h2])]; decide
    · rw [c3 (Int.mul_lt_mul_of_pos_right (by omega) hp)]; decide
theorem own_eps {i j t Z : Int} {e : Nat} {x y w : UInt64} (hx : OwnU i (e + 1) x) (hy : OwnU j (e + 1) y) (hw : ∃ s c q, val64 w = Datum.fin s c q) (hZ : zval b64 (val64 w) = Z) (h1 : t * (2 * ((2 ^ e : Nat) : Int)) ≤ Z) (h2 : Z ≤ (2 * t + 1) * ((2 ^ e : Nat) : Int)) (hs : (2 * (j + t) + 1).natAbs < 2 ^ 53) (he : e ≤ 1400) :
    NoNaN64 (FP.dadd y w) ∧ ((0 : Int32) < cmpValue (FP.dcmp x (FP.dadd y w)) .g ↔ j + t < i) := by
  have hv : val64 (FP.dadd y w) = round b64 (exactSum (val64 y) (val64 w)) := val64_dadd y w
  have nn : val64 (FP.dadd y w) ≠ .nan := by rw [hv]; exact own_sum_nn hy.1 hw
  refine ⟨val64_no.mpr nn, ?_⟩
  obtain ⟨V, hV, fV, zV⟩ := own_rep (2 * (j + t) + 1) e hs (by omega)
  obtain ⟨c1, c2, c3⟩ := own_cmp hx.nn nn .g
  have zx := hx.2
  have zy := hy.2
  have hp : (0 : Int) < ((2 ^ e : Nat) : Int) := Int.ofNat_lt.mpr (Nat.two_pow_pos e)
  have h2e : ((2 ^ (e + 1) : Nat) : Int) = 2 * ((2 ^ e : Nat) : Int) := by rw [Nat.pow_succ, Nat.mul_comm]; rfl
  rw [h2e] at zx zy
  have ge := fun k => sum_ge good_b64 (V := val64 x) hy.1 hw (val64_fits y) (val64_fits w) (val64_fits x) hx.nn k
  have le := fun k => sum_le good_b64 (V := V) hy.1 hw (val64_fits y) (val64_fits w) fV (own_nn hV) k
  rw [← hv, zx, zy, hZ] at ge
  rw [← hv, zV, zy, hZ] at le
  rw [zx] at c1 c2 c3
  generalize zval b64 (val64 (FP.dadd y w)) = r at *
  generalize ((2 ^ e : Nat) : Int) = P at *
  have e1 : (2 * t + 1) * P = 2 * (t * P) + P := by rw [Int.add_mul, Int.one_mul, Int.mul_assoc]
  have e2 : (2 * (j + t) + 1) * P = 2 * (j * P) + 2 * (t * P) + P := by rw [Int.add_mul, Int.one_mul, Int.mul_assoc, Int.add_mul]; omega
  have e3 : t * (2 * P) = 2 * (t * P) := by rw [← Int.mul_assoc, Int.mul_comm t, Int.mul_assoc]
  have e4 : j * (2 * P) = 2 * (j * P) := by rw [← Int.mul_assoc, Int.mul_comm j, Int.mul_assoc]
  have e5 : i * (2 * P) = 2 * (i * P) := by rw [← Int.mul_assoc, Int.mul_comm i, Int.mul_assoc]
  rw [e3] at h1
  rw [e1] at h2
  rw [e4, e5] at ge
  rw [e4, e2] at le
  rw [e5] at c1 c2 c3
  by_cases h : j + t < i
  · have m : (j + t + 1) * P ≤ i * P := Int.mul_le_mul_of_nonneg_right (by omega) (Int.le_of_lt hp)
    rw [Int.add_mul, Int.add_mul, Int.one_mul] at m
    have l := le (by omega)
    rw [c3 (by omega)]
    exact ⟨fun _ => h, fun _ => by decide⟩
  · have m : i * P ≤ (j + t) * P := Int.mul_le_mul_of_nonneg_right (by omega) (Int.le_of_lt hp)
    rw [Int.add_mul] at m
    have g := ge (by omega)
    refine ⟨fun q => absurd q ?_, fun q => absurd q h⟩
    by_cases h3 : 2 * (i * P) = r
    · rw [c2 h3]; decide
    · rw [c1 (by omega)]; decide
theorem own_w_fin : ∃ s c q, val64 4472406533629990549 = Datum.fin s c q := by
  have h : (match val64 4472406533629990549 with | .fin _ _ _ => true | _ => false) = true := by decide +kernel
  generalize val64 4472406533629990549 = v at h
  cases v with
  | nan => cases h
  | inf s => cases h
  | fin s c q => exact ⟨s, c, q, rfl⟩
theorem own_w_f1 : 4 * (2 * ((2 ^ 1041 : Nat) : Int)) ≤ zval b64 (val64 4472406533629990549) := by decide +kernel
theorem own_w_f2 : zval b64 (val64 4472406533629990549) ≤ (2 * 4 + 1) * ((2 ^ 1041 : Nat) : Int) := by decide +kernel
theorem own_w_c1 : 0 * (2 * ((2 ^ 1073 : Nat) : Int)) ≤ zval b64 (val64 4472406533629990549) := by decide +kernel
theorem own_w_c2 : zval b64 (val64 4472406533629990549) ≤ (2 * 0 + 1) * ((2 ^ 1073 : Nat) : Int) := by decide +kernel
end OwnSum

theorem own_b (x : Int32) : -1048576 ≤ ((x >>> ((11 : Int32) &&& 31)).toInt64).toInt ∧ ((x >>> ((11 : Int32) &&& 31)).toInt64).toInt ≤ 1048576 := by
  have h : (x >>> ((11 : Int32) &&& 31)).toInt = x.toInt / 2048 := c_ishr x 11 11 (by decide)
  rw [c_i2l, h]
  have r := rng32 x
  omega
theorem own_d15 (x : Int32) : -8 ≤ (((x &&& (15 : Int32)) - (8 : Int32)).toInt64).toInt ∧ (((x &&& (15 : Int32)) - (8 : Int32)).toInt64).toInt ≤ 8 := by
  have h : (x &&& (15 : Int32)).toInt = x.toInt % 16 := c_mask x 15 4 (by decide) (by decide)
  have e : (((x &&& (15 : Int32)) - (8 : Int32)).toInt - ((x &&& (15 : Int32)).toInt - 8)) % 4294967296 = 0 := c_isub (x &&& 15) 8
  have r := rng32 ((x &&& (15 : Int32)) - (8 : Int32))
  rw [c_i2l]
  omega
theorem own_d31 (x : Int32) : -16 ≤ (((x &&& (31 : Int32)) - (16 : Int32)).toInt64).toInt ∧ (((x &&& (31 : Int32)) - (16 : Int32)).toInt64).toInt ≤ 16 := by
  have h : (x &&& (31 : Int32)).toInt = x.toInt % 32 := c_mask x 31 5 (by decide) (by decide)
  have e : (((x &&& (31 : Int32)) - (16 : Int32)).toInt - ((x &&& (31 : Int32)).toInt - 16)) % 4294967296 = 0 := c_isub (x &&& 31) 16
  have r := rng32 ((x &&& (31 : Int32)) - (16 : Int32))
  rw [c_i2l]
  omega
/-- small -/
def OwnS (v : Int64) : Prop := -2097152 ≤ v.toInt ∧ v.toInt ≤ 2097152
theorem own_add {a b : Int64} (h1 : -1048576 ≤ a.toInt ∧ a.toInt ≤ 1048576) (h2 : -16 ≤ b.toInt ∧ b.toInt ≤ 16) : OwnS (a + b) := by
  have e := c_ladd a b
  have r := rng64 (a + b)
  show -2097152 ≤ _ ∧ _ ≤ 2097152
  omega
theorem OwnS.n {v : Int64} (h : OwnS v) : v.toInt.natAbs < 2 ^ 53 := by
  obtain ⟨a, b⟩ := h
  have : v.toInt.natAbs ≤ 2097152 := by omega
  exact Nat.lt_of_le_of_lt this (by decide)
theorem own_sn {v w : Int64} (h : OwnS v) (k : OwnS w) : (v.toInt - w.toInt).natAbs < 2 ^ 53 := by
  obtain ⟨a, b⟩ := h
  obtain ⟨c, d⟩ := k
  have : (v.toInt - w.toInt).natAbs ≤ 4194304 := by omega
  exact Nat.lt_of_le_of_lt this (by decide)
theorem own_en {v : Int64} {t : Int} (h : OwnS v) (ht : 0 ≤ t ∧ t ≤ 4) : (2 * (v.toInt + t) + 1).natAbs < 2 ^ 53 := by
  obtain ⟨a, b⟩ := h
  have : (2 * (v.toInt + t) + 1).natAbs ≤ 8388608 := by omega
  exact Nat.lt_of_le_of_lt this (by decide)
theorem own_ls {a b c : Int64} (hb : OwnS b) (hc : OwnS c) : lcmpW a (b - c) < (0 : Int32) ↔ a.toInt < b.toInt - c.toInt := by
  have e := c_lsub b c
  have r := rng64 (b - c)
  obtain ⟨b1, b2⟩ := hb
  obtain ⟨c1, c2⟩ := hc
  rw [lw_lt, Int64.lt_iff_toInt_lt]
  omega
theorem own_la {a b : Int64} {t : Int64} {k : Int} (hb : OwnS b) (ht : t.toInt = k) (hk : 0 ≤ k ∧ k ≤ 4) : (0 : Int32) < lcmpW a (b + t) ↔ b.toInt + k < a.toInt := by
  have e := c_ladd b t
  have r := rng64 (b + t)
  obtain ⟨b1, b2⟩ := hb
  rw [lw_gt, Int64.lt_iff_toInt_lt]
  omega
theorem pn_0 : plainName "java/lang/Record" = true := by first | (simp [plainName, overriddenIn]; done) | decide +kernel
theorem d2_0 : decode jdk_30_method_1_code 0 = .ok (.aload_n 0, 1) := by decide +kernel
theorem d2_1 : decode jdk_30_method_1_code 1 = .ok (.invokespecial 1, 3) := by decide +kernel
theorem d2_4 : decode jdk_30_method_1_code 4 = .ok (.return_, 1) := by decide +kernel
theorem ef_rec_init (m : MethodId) (x0 : Addr) : entryFrame m #[(.ref x0)] 1 = mkF m 0 #[.val (.ref x0)] [] := by first | (simp [entryFrame, mkF, argsToLocals, Value.category]; done) | rfl | (simp [entryFrame, mkF, argsToLocals, *]; done)
def Q_rec_init (Z : State) (ra : Addr) (h0 : Heap) (n0 : Nat) (v : Option Value) (h : Heap) (L : List Loc) : Prop := v = none ∧ Fr n0 L ∧ h = h0
set_option maxRecDepth 65536 in
set_option maxHeartbeats 40000000 in
theorem rec_init (l : Launch) (Z : State) (a0 : Array Value) (hw : ∀ d ∈ tables_1, d.before a0 Z = true) (ws : List Jvm.Cond) (ra : Addr) (h0 : Heap) (n0 : Nat) (Z0 : n0 ≤ h0.size) :
    MetFree l (⟨"java/lang/Record", "<init>", "()V"⟩ : MethodName) (head1 (Jvm.Cond.code (⟨"java/lang/Record", "<init>", "()V"⟩ : MethodName) jdk_30_method_1_code 1 none :: ws) ({ frames := 1, cells := 0, slots := 0, locals := 12 } : Room)) (fun a U => a = #[(.ref ra)] ∧ Z.Warmed39 U.vm ∧ U.heap = h0) (fun _ _ _ _ _ => True) (fun _ U o U' => ∃ v L, o = .returned v ∧ Q_rec_init Z ra h0 n0 v U'.heap L ∧ FrameEnd U o U' L ({ frames := 1, cells := 0, slots := 0, locals := 12 } : Room).cells ({ frames := 1, cells := 0, slots := 0, locals := 12 } : Room).slots) := by
  refine MetFree.of_bodySF (plainFor_of_name pn_0) hisR ?_
  intro p e s m args below meth c s₁ Bd hml0 hP hK
  obtain ⟨rfl, hZ, hh⟩ := hP
  have hx := Bd.exec
  have hby := Bd.bytes
  have hml : c.maxLocals = 1 := hml0
  have hown : s.vm.findClass "java/lang/Record" = some m.cls := findClass_of_methodNamed Bd.named
  have hnm := (name_of_methodNamed Bd.named Bd.method).1
  have X0 : Stand p l e ({ frames := 1, cells := 0, slots := 0, locals := 12 } : Room) s m #[(.ref ra)] below meth c s₁ [] 0 0 := Stand.of_body Bd
  have e0 : s₁.heap = h0 := by rw [← hh, Bd.state]; rfl
  have N0 := Fr.nil n0
  obtain ⟨G, hG⟩ : ∃ G : State → Prop, G = (fun U' => ∃ o, U'.status = .running ∧ Ended U' below o ∧ ∃ v L, o = .returned v ∧ Q_rec_init Z ra h0 n0 v U'.heap L ∧ FrameEnd s o U' L ({ frames := 1, cells := 0, slots := 0, locals := 12 } : Room).cells ({ frames := 1, cells := 0, slots := 0, locals := 12 } : Room).slots) := ⟨_, rfl⟩
  suffices key : Gl p.tables e below s₁ (mkF m 0 #[.val (.ref ra)] []) G by
    obtain ⟨s₂, k1, k2⟩ := key
    rw [hG] at k2
    obtain ⟨o, k3, k4, k5⟩ := k2
    exact ⟨s₂, o, castTop (ef_rec_init m ra) k1, k3, k4, k5⟩
  show Gl p.tables e below s₁ (mkF m 0 #[.val (.ref ra)] []) G
  refine Gl.via (fun _ k => XS.aloadN X0.here hx rfl (hb hby d2_0) rfl rfl k) ?_
  show Gl p.tables e below s₁ (mkF m 1 #[.val (.ref ra)] [(.ref ra)]) G
  obtain ⟨T1, X1, e1, st1⟩ := initO X0 hx hZ hown (hw _ (List.mem_of_getElem? (i := 13) rfl)) (hw _ (List.mem_of_getElem? (i := 14) rfl)) (hw _ (List.mem_of_getElem? (i := 15) rfl)) e0 (g := (mkF m 1 #[.val (.ref ra)] [(.ref ra)])) rfl (by rw [hml]; rfl) rfl (hb hby d2_1) (by decide) (W := 0) (by show 2 * 0 + _ ≤ _; exact Nat.le_of_eq rfl) (by decide)
  refine Gl.via st1 ?_
  show Gl p.tables e below T1 (mkF m 4 #[.val (.ref ra)] []) G
  obtain ⟨fs, hr, hrun, hended, hW, hsame⟩ := X1.leave (v := none) (fun _ => rfl)
  have hq : ∀ L, Fr n0 L → Q_rec_init Z ra h0 n0 (none) T1.heap L := by
    intro L hN
    rw [e1]
    exact ⟨rfl, hN, rfl⟩
  rw [hG]
  exact Gl.fin (X1.returnOut hx Bd.returns (hb hby d2_4) hr) ⟨_, hrun, hended, _, _, rfl, hq _ N0, ⟨_, rfl⟩, hW, hsame.mono (by decide) (by decide)⟩
theorem pn_1 : plainName "com/example/sortie/sortie/solver/Cost" = true := by first | (simp [plainName, overriddenIn]; done) | decide +kernel
theorem d1_0 : decode prog_45_method_1_code 0 = .ok (.aload_n 0, 1) := by decide +kernel
theorem d1_1 : decode prog_45_method_1_code 1 = .ok (.invokespecial 1, 3) := by decide +kernel
theorem pd_0 : parseMethodDescriptor "()V" = some ⟨[], none⟩ := by decide +kernel
theorem d1_4 : decode prog_45_method_1_code 4 = .ok (.aload_n 0, 1) := by decide +kernel
theorem d1_5 : decode prog_45_method_1_code 5 = .ok (.dload_n 1, 1) := by decide +kernel
theorem d1_6 : decode prog_45_method_1_code 6 = .ok (.putfield 7, 3) := by decide +kernel
theorem d1_9 : decode prog_45_method_1_code 9 = .ok (.aload_n 0, 1) := by decide +kernel
theorem d1_10 : decode prog_45_method_1_code 10 = .ok (.dload_n 3, 1) := by decide +kernel
theorem d1_11 : decode prog_45_method_1_code 11 = .ok (.putfield 13, 3) := by decide +kernel
theorem d1_14 : decode prog_45_method_1_code 14 = .ok (.return_, 1) := by decide +kernel
theorem ef_c_init (m : MethodId) (x0 : Addr) (x1 : UInt64) (x2 : UInt64) : entryFrame m #[(.ref x0), (.double x1), (.double x2)] 5 = mkF m 0 #[.val (.ref x0), .val (.double x1), .second, .val (.double x2), .second] [] := by first | (simp [entryFrame, mkF, argsToLocals, Value.category]; done) | rfl | (simp [entryFrame, mkF, argsToLocals, *]; done)
def Q_c_init (Z : State) (ca : Addr) (cx : UInt64) (cy : UInt64) (cu : Value) (cw : Value) (h0 : Heap) (n0 : Nat) (v : Option Value) (h : Heap) (L : List Loc) : Prop := v = none ∧ Fr n0 L ∧ Keep h0 h [ca] ∧ Exa Z h ca "com/example/sortie/sortie/solver/Cost" ∧ Fld Z h ca "com/example/sortie/sortie/solver/Cost" "value" "D" (.double cx) ∧ Fld Z h ca "com/example/sortie/sortie/solver/Cost" "tieBreak" "D" (.double cy)
set_option maxRecDepth 65536 in
set_option maxHeartbeats 40000000 in
theorem c_init (l : Launch) (Z : State) (a0 : Array Value) (hw : ∀ d ∈ tables_1, d.before a0 Z = true) (ws : List Jvm.Cond) (ca : Addr) (cx : UInt64) (cy : UInt64) (cu : Value) (cw : Value) (h0 : Heap) (n0 : Nat) (Z0 : n0 ≤ h0.size) (F0_ca : Exa Z h0 ca "com/example/sortie/sortie/solver/Cost") (F1_ca_value : Fld Z h0 ca "com/example/sortie/sortie/solver/Cost" "value" "D" cu) (F2_ca_tieBreak : Fld Z h0 ca "com/example/sortie/sortie/solver/Cost" "tieBreak" "D" cw) (hp0 : n0 ≤ ca) :
    MetFree l (⟨"com/example/sortie/sortie/solver/Cost", "<init>", "(DD)V"⟩ : MethodName) (head1 (Jvm.Cond.code (⟨"com/example/sortie/sortie/solver/Cost", "<init>", "(DD)V"⟩ : MethodName) prog_45_method_1_code 5 none :: ws) ({ frames := 2, cells := 0, slots := 0, locals := 24 } : Room)) (fun a U => a = #[(.ref ca), (.double cx), (.double cy)] ∧ Z.Warmed39 U.vm ∧ U.heap = h0) (fun _ _ _ _ _ => True) (fun _ U o U' => ∃ v L, o = .returned v ∧ Q_c_init Z ca cx cy cu cw h0 n0 v U'.heap L ∧ FrameEnd U o U' L ({ frames := 2, cells := 0, slots := 0, locals := 24 } : Room).cells ({ frames := 2, cells := 0, slots := 0, locals := 24 } : Room).slots) := by
  refine MetFree.of_bodySF (plainFor_of_name pn_1) hisR ?_
  intro p e s m args below meth c s₁ Bd hml0 hP hK
  obtain ⟨rfl, hZ, hh⟩ := hP
  have hx := Bd.exec
  have hby := Bd.bytes
  have hml : c.maxLocals = 5 := hml0
  have hown : s.vm.findClass "com/example/sortie/sortie/solver/Cost" = some m.cls := findClass_of_methodNamed Bd.named
  have hnm := (name_of_methodNamed Bd.named Bd.method).1
  have X0 : Stand p l e ({ frames := 2, cells := 0, slots := 0, locals := 24 } : Room) s m #[(.ref ca), (.double cx), (.double cy)] below meth c s₁ [] 0 0 := Stand.of_body Bd
  have e0 : s₁.heap = h0 := by rw [← hh, Bd.state]; rfl
  have N0 := Fr.nil n0
  obtain ⟨G, hG⟩ : ∃ G : State → Prop, G = (fun U' => ∃ o, U'.status = .running ∧ Ended U' below o ∧ ∃ v L, o = .returned v ∧ Q_c_init Z ca cx cy cu cw h0 n0 v U'.heap L ∧ FrameEnd s o U' L ({ frames := 2, cells := 0, slots := 0, locals := 24 } : Room).cells ({ frames := 2, cells := 0, slots := 0, locals := 24 } : Room).slots) := ⟨_, rfl⟩
  suffices key : Gl p.tables e below s₁ (mkF m 0 #[.val (.ref ca), .val (.double cx), .second, .val (.double cy), .second] []) G by
    obtain ⟨s₂, k1, k2⟩ := key
    rw [hG] at k2
    obtain ⟨o, k3, k4, k5⟩ := k2
    exact ⟨s₂, o, castTop (ef_c_init m ca cx cy) k1, k3, k4, k5⟩
  show Gl p.tables e below s₁ (mkF m 0 #[.val (.ref ca), .val (.double cx), .second, .val (.double cy), .second] []) G
  refine Gl.via (fun _ k => XS.aloadN X0.here hx rfl (hb hby d1_0) rfl rfl k) ?_
  show Gl p.tables e below s₁ (mkF m 1 #[.val (.ref ca), .val (.double cx), .second, .val (.double cy), .second] [(.ref ca)]) G
  obtain ⟨_, _, ⟨T1, L1, k1, n1⟩, -, X1, ⟨Lc1, hQ1, l1, y1, z1⟩, st1⟩ := X0.specialBack hx (y := (⟨"java/lang/Record", "<init>", "()V"⟩ : MethodName)) rfl hown (mvT hZ (hw _ (List.mem_of_getElem? (i := 8) rfl))) (mvT hZ (hw _ (List.mem_of_getElem? (i := 9) rfl))) (mvT hZ (hw _ (List.mem_of_getElem? (i := 12) rfl))) (by decide) (backOf (W := 0) (rec_init l Z a0 hw [] ca h0 n0 Z0 ) hZ (hw _ (List.mem_of_getElem? (i := 12) rfl)) (hw _ (List.mem_of_getElem? (i := 11) rfl)) (by decide) (by decide)) (g := (mkF m 1 #[.val (.ref ca), .val (.double cx), .second, .val (.double cy), .second] [(.ref ca)])) rfl (by rw [hml]; rfl) (Steps.refl _) (a := ca) (argsL := []) (rest := []) (lenOf pd_0 rfl) rfl (by show 2 * 0 + _ ≤ _; exact Nat.le_of_eq rfl) (hb hby d1_1) (fun _ _ => ⟨rfl, e0, (by decide : 0 + 0 ≤ _), (by decide : 0 + 0 ≤ _)⟩)
  dsimp only [Pt.U, Pt.locs, Pt.cells, Pt.slots] at X1 l1 y1 z1 st1 hQ1
  subst l1 y1 z1
  obtain ⟨rfl, N1q, eh1⟩ := hQ1
  have N1_ := Fr.app N0 N1q
  refine Gl.via (fun _ k => st1.trans k) ?_
  show Gl p.tables e below T1 (mkF m 4 #[.val (.ref ca), .val (.double cx), .second, .val (.double cy), .second] []) G
  refine Gl.via (fun _ k => XS.aloadN X1.here hx rfl (hb hby d1_4) rfl rfl k) ?_
  show Gl p.tables e below T1 (mkF m 5 #[.val (.ref ca), .val (.double cx), .second, .val (.double cy), .second] [(.ref ca)]) G
  refine Gl.via (fun _ k => XS.dloadN X1.here hx rfl (hb hby d1_5) rfl k) ?_
  show Gl p.tables e below T1 (mkF m 6 #[.val (.ref ca), .val (.double cx), .second, .val (.double cy), .second] [(.double cx), (.ref ca)]) G
  obtain ⟨T2, h2, X2, e2, W2, st2⟩ := putF X1 hx hZ hown (host := "") (Or.inl (hw _ (List.mem_of_getElem? (i := 16) rfl))) Via.refl eh1 F1_ca_value F0_ca (Or.inr ⟨(hw _ (List.mem_of_getElem? (i := 17) rfl)), rfl, hnm⟩) (hw _ (List.mem_of_getElem? (i := 3) rfl)) (ty := .double) (by decide) rfl rfl (g := (mkF m 6 #[.val (.ref ca), .val (.double cx), .second, .val (.double cy), .second] [(.double cx), (.ref ca)])) rfl rfl (hb hby d1_6)
  refine Gl.via st2 ?_
  have N2_ := Fr.snoc X2 N1_ hp0
  have Z3 : n0 ≤ h2.size := Nat.le_trans Z0 (Keep.of_wr W2).1
  have Y4 : h0.size ≤ h2.size := Nat.le_trans (Nat.le_refl h0.size) (Keep.of_wr W2).1
  show Gl p.tables e below T2 (mkF m 9 #[.val (.ref ca), .val (.double cx), .second, .val (.double cy), .second] []) G
  refine Gl.via (fun _ k => XS.aloadN X2.here hx rfl (hb hby d1_9) rfl rfl k) ?_
  show Gl p.tables e below T2 (mkF m 10 #[.val (.ref ca), .val (.double cx), .second, .val (.double cy), .second] [(.ref ca)]) G
  refine Gl.via (fun _ k => XS.dloadN X2.here hx rfl (hb hby d1_10) rfl k) ?_
  show Gl p.tables e below T2 (mkF m 11 #[.val (.ref ca), .val (.double cx), .second, .val (.double cy), .second] [(.double cy), (.ref ca)]) G
  have G5 : Fld Z h2 ca "com/example/sortie/sortie/solver/Cost" "tieBreak" "D" cw := (F2_ca_tieBreak.other W2 (Or.inr (slot_ne (Or.inr (hw _ (List.mem_of_getElem? (i := 19) rfl))) (Or.inr (hw _ (List.mem_of_getElem? (i := 17) rfl))) (by decide) (t := .double) (t' := .double) (by decide) (by decide))))
  have G6 : Exa Z h2 ca "com/example/sortie/sortie/solver/Cost" := (F0_ca.wr W2)
  obtain ⟨T7, h7, X7, e7, W7, st7⟩ := putF X2 hx hZ hown (host := "") (Or.inl (hw _ (List.mem_of_getElem? (i := 18) rfl))) Via.refl e2 G5 G6 (Or.inr ⟨(hw _ (List.mem_of_getElem? (i := 19) rfl)), rfl, hnm⟩) (hw _ (List.mem_of_getElem? (i := 3) rfl)) (ty := .double) (by decide) rfl rfl (g := (mkF m 11 #[.val (.ref ca), .val (.double cx), .second, .val (.double cy), .second] [(.double cy), (.ref ca)])) rfl rfl (hb hby d1_11)
  refine Gl.via st7 ?_
  have N7_ := Fr.snoc X7 N2_ hp0
  have Z8 : n0 ≤ h7.size := Nat.le_trans Z3 (Keep.of_wr W7).1
  have Y9 : h0.size ≤ h7.size := Nat.le_trans Y4 (Keep.of_wr W7).1
  show Gl p.tables e below T7 (mkF m 14 #[.val (.ref ca), .val (.double cx), .second, .val (.double cy), .second] []) G
  obtain ⟨fs, hr, hrun, hended, hW, hsame⟩ := X7.leave (v := none) (fun _ => rfl)
  have G10 : Exa Z h7 ca "com/example/sortie/sortie/solver/Cost" := (G6.wr W7)
  have G11 : Fld Z h7 ca "com/example/sortie/sortie/solver/Cost" "value" "D" (.double cx) := ((Fld.same W2 F1_ca_value).other W7 (Or.inr (slot_ne (Or.inr (hw _ (List.mem_of_getElem? (i := 17) rfl))) (Or.inr (hw _ (List.mem_of_getElem? (i := 19) rfl))) (by decide) (t := .double) (t' := .double) (by decide) (by decide))))
  have hq : ∀ L, Fr n0 L → Q_c_init Z ca cx cy cu cw h0 n0 (none) T7.heap L := by
    intro L hN
    rw [e7]
    exact ⟨rfl, hN, (((Keep.refl h0 [ca]).wr W2 (Or.inl (List.mem_of_getElem? (i := 0) rfl))).wr W7 (Or.inl (List.mem_of_getElem? (i := 0) rfl))), G10, G11, (Fld.same W7 G5)⟩
  rw [hG]
  exact Gl.fin (X7.returnOut hx Bd.returns (hb hby d1_14) hr) ⟨_, hrun, hended, _, _, rfl, hq _ N7_, ⟨_, rfl⟩, hW, hsame.mono (by decide) (by decide)⟩
theorem d4_0 : decode prog_45_method_4_code 0 = .ok (.aload_n 0, 1) := by decide +kernel
theorem d4_1 : decode prog_45_method_4_code 1 = .ok (.getfield 7, 3) := by decide +kernel
theorem d4_4 : decode prog_45_method_4_code 4 = .ok (.aload_n 1, 1) := by decide +kernel
theorem d4_5 : decode prog_45_method_4_code 5 = .ok (.getfield 7, 3) := by decide +kernel
theorem d4_8 : decode prog_45_method_4_code 8 = .ok (.dload_n 2, 1) := by decide +kernel
theorem d4_9 : decode prog_45_method_4_code 9 = .ok (.dsub, 1) := by decide +kernel
theorem d4_10 : decode prog_45_method_4_code 10 = .ok (.dcmp .g, 1) := by decide +kernel
theorem d4_11 : decode prog_45_method_4_code 11 = .ok (.ifCond .lt 33, 3) := by decide +kernel
theorem d4_44 : decode prog_45_method_4_code 44 = .ok (.iconst 1, 1) := by decide +kernel
theorem d4_45 : decode prog_45_method_4_code 45 = .ok (.goto 4, 3) := by decide +kernel
theorem d4_49 : decode prog_45_method_4_code 49 = .ok (.ireturn, 1) := by decide +kernel
theorem ef_b1a (m : MethodId) (x0 : Addr) (x1 : Addr) (x2 : UInt64) : entryFrame m #[(.ref x0), (.ref x1), (.double x2)] 4 = mkF m 0 #[.val (.ref x0), .val (.ref x1), .val (.double x2), .second] [] := by first | (simp [entryFrame, mkF, argsToLocals, Value.category]; done) | rfl | (simp [entryFrame, mkF, argsToLocals, *]; done)
def Q_b1a (Z : State) (ba : Addr) (bb : Addr) (bg : UInt64) (bx : UInt64) (by_ : UInt64) (bt : UInt64) (bu : UInt64) (h0 : Heap) (n0 : Nat) (v : Option Value) (h : Heap) (L : List Loc) : Prop := v = some (.int (1 : Int32)) ∧ Fr n0 L ∧ h = h0
set_option maxRecDepth 65536 in
set_option maxHeartbeats 40000000 in
theorem b1a (l : Launch) (Z : State) (a0 : Array Value) (hw : ∀ d ∈ tables_1, d.before a0 Z = true) (ws : List Jvm.Cond) (ba : Addr) (bb : Addr) (bg : UInt64) (bx : UInt64) (by_ : UInt64) (bt : UInt64) (bu : UInt64) (h0 : Heap) (n0 : Nat) (Z0 : n0 ≤ h0.size) (F0_ba_value : Fld Z h0 ba "com/example/sortie/sortie/solver/Cost" "value" "D" (.double bx)) (F1_bb_value : Fld Z h0 bb "com/example/sortie/sortie/solver/Cost" "value" "D" (.double by_)) (F2_ba_tieBreak : Fld Z h0 ba "com/example/sortie/sortie/solver/Cost" "tieBreak" "D" (.double bt)) (F3_bb_tieBreak : Fld Z h0 bb "com/example/sortie/sortie/solver/Cost" "tieBreak" "D" (.double bu)) (n1 : NoNaN64 (FP.dsub by_ bg)) (h1 : cmpValue (FP.dcmp bx (FP.dsub by_ bg)) .g < (0 : Int32)) :
    MetFree l (⟨"com/example/sortie/sortie/solver/Cost", "below", "(Lcom/example/sortie/sortie/solver/Cost;D)Z"⟩ : MethodName) (head1 (Jvm.Cond.code (⟨"com/example/sortie/sortie/solver/Cost", "below", "(Lcom/example/sortie/sortie/solver/Cost;D)Z"⟩ : MethodName) prog_45_method_4_code 4 (some .boolean) :: ws) ({ frames := 0, cells := 0, slots := 0, locals := 0 } : Room)) (fun a U => a = #[(.ref ba), (.ref bb), (.double bg)] ∧ Z.Warmed39 U.vm ∧ U.heap = h0) (fun _ _ _ _ _ => True) (fun _ U o U' => ∃ v L, o = .returned v ∧ Q_b1a Z ba bb bg bx by_ bt bu h0 n0 v U'.heap L ∧ FrameEnd U o U' L ({ frames := 0, cells := 0, slots := 0, locals := 0 } : Room).cells ({ frames := 0, cells := 0, slots := 0, locals := 0 } : Room).slots) := by
  refine MetFree.of_bodySF (plainFor_of_name pn_1) hisR ?_
  intro p e s m args below meth c s₁ Bd hml0 hP hK
  obtain ⟨rfl, hZ, hh⟩ := hP
  have hx := Bd.exec
  have hby := Bd.bytes
  have hml : c.maxLocals = 4 := hml0
  have hown : s.vm.findClass "com/example/sortie/sortie/solver/Cost" = some m.cls := findClass_of_methodNamed Bd.named
  have hnm := (name_of_methodNamed Bd.named Bd.method).1
  have X0 : Stand p l e ({ frames := 0, cells := 0, slots := 0, locals := 0 } : Room) s m #[(.ref ba), (.ref bb), (.double bg)] below meth c s₁ [] 0 0 := Stand.of_body Bd
  have e0 : s₁.heap = h0 := by rw [← hh, Bd.state]; rfl
  have N0 := Fr.nil n0
  obtain ⟨G, hG⟩ : ∃ G : State → Prop, G = (fun U' => ∃ o, U'.status = .running ∧ Ended U' below o ∧ ∃ v L, o = .returned v ∧ Q_b1a Z ba bb bg bx by_ bt bu h0 n0 v U'.heap L ∧ FrameEnd s o U' L ({ frames := 0, cells := 0, slots := 0, locals := 0 } : Room).cells ({ frames := 0, cells := 0, slots := 0, locals := 0 } : Room).slots) := ⟨_, rfl⟩
  suffices key : Gl p.tables e below s₁ (mkF m 0 #[.val (.ref ba), .val (.ref bb), .val (.double bg), .second] []) G by
    obtain ⟨s₂, k1, k2⟩ := key
    rw [hG] at k2
    obtain ⟨o, k3, k4, k5⟩ := k2
    exact ⟨s₂, o, castTop (ef_b1a m ba bb bg) k1, k3, k4, k5⟩
  show Gl p.tables e below s₁ (mkF m 0 #[.val (.ref ba), .val (.ref bb), .val (.double bg), .second] []) G
  refine Gl.via (fun _ k => XS.aloadN X0.here hx rfl (hb hby d4_0) rfl rfl k) ?_
  show Gl p.tables e below s₁ (mkF m 1 #[.val (.ref ba), .val (.ref bb), .val (.double bg), .second] [(.ref ba)]) G
  obtain ⟨T1, X1, e1, st1⟩ := getF X0 hx hZ hown (host := "") (Or.inl (hw _ (List.mem_of_getElem? (i := 16) rfl))) Via.refl e0 F0_ba_value (g := (mkF m 1 #[.val (.ref ba), .val (.ref bb), .val (.double bg), .second] [(.ref ba)])) rfl rfl (hb hby d4_1)
  refine Gl.via st1 ?_
  show Gl p.tables e below T1 (mkF m 4 #[.val (.ref ba), .val (.ref bb), .val (.double bg), .second] [(.double bx)]) G
  refine Gl.via (fun _ k => XS.aloadN X1.here hx rfl (hb hby d4_4) rfl rfl k) ?_
  show Gl p.tables e below T1 (mkF m 5 #[.val (.ref ba), .val (.ref bb), .val (.double bg), .second] [(.ref bb), (.double bx)]) G
  obtain ⟨T2, X2, e2, st2⟩ := getF X1 hx hZ hown (host := "") (Or.inl (hw _ (List.mem_of_getElem? (i := 16) rfl))) Via.refl e1 F1_bb_value (g := (mkF m 5 #[.val (.ref ba), .val (.ref bb), .val (.double bg), .second] [(.ref bb), (.double bx)])) rfl rfl (hb hby d4_5)
  refine Gl.via st2 ?_
  show Gl p.tables e below T2 (mkF m 8 #[.val (.ref ba), .val (.ref bb), .val (.double bg), .second] [(.double by_), (.double bx)]) G
  refine Gl.via (fun _ k => XS.dloadN X2.here hx rfl (hb hby d4_8) rfl k) ?_
  show Gl p.tables e below T2 (mkF m 9 #[.val (.ref ba), .val (.ref bb), .val (.double bg), .second] [(.double bg), (.double by_), (.double bx)]) G
  refine Gl.via (fun _ k => XS.dsubS X2.here hx rfl (hb hby d4_9) rfl n1 rfl k) ?_
  show Gl p.tables e below T2 (mkF m 10 #[.val (.ref ba), .val (.ref bb), .val (.double bg), .second] [(.double (FP.dsub by_ bg)), (.double bx)]) G
  refine Gl.via (fun _ k => XS.dcmpS X2.here hx rfl (v := (cmpValue (FP.dcmp bx (FP.dsub by_ bg)) .g)) (hb hby d4_10) rfl rfl k) ?_
  show Gl p.tables e below T2 (mkF m 11 #[.val (.ref ba), .val (.ref bb), .val (.double bg), .second] [(.int (cmpValue (FP.dcmp bx (FP.dsub by_ bg)) .g))]) G
  refine Gl.via (fun _ k => XS.ifYes X2.here hx rfl (pc0 := 11) (pc' := 44) rfl (hb hby d4_11) rfl ((if0 _ _).trans (tlt h1).1) (by decide) (by decide) k) ?_
  show Gl p.tables e below T2 (mkF m 44 #[.val (.ref ba), .val (.ref bb), .val (.double bg), .second] []) G
  refine Gl.via (fun _ k => XS.iconst X2.here hx rfl (hb hby d4_44) k) ?_
  show Gl p.tables e below T2 (mkF m 45 #[.val (.ref ba), .val (.ref bb), .val (.double bg), .second] [(.int (1 : Int32))]) G
  refine Gl.via (fun _ k => XS.goto X2.here hx rfl (pc0 := 45) (pc' := 49) rfl (hb hby d4_45) (by decide) (by decide) k) ?_
  show Gl p.tables e below T2 (mkF m 49 #[.val (.ref ba), .val (.ref bb), .val (.double bg), .second] [(.int (1 : Int32))]) G
  obtain ⟨fs, hr, hrun, hended, hW, hsame⟩ := X2.leave (v := some (.int (1 : Int32))) (fun h => by rw [Bd.returns] at h; cases h)
  have hq : ∀ L, Fr n0 L → Q_b1a Z ba bb bg bx by_ bt bu h0 n0 (some (.int (1 : Int32))) T2.heap L := by
    intro L hN
    rw [e2]
    exact ⟨rfl, hN, rfl⟩
  rw [hG]
  exact Gl.fin (retN X2 hx (t := .boolean) Bd.returns (by simp) (hb hby d4_49) hr) ⟨_, hrun, hended, _, _, rfl, hq _ N0, ⟨_, rfl⟩, hW, hsame.mono (by decide) (by decide)⟩
theorem d4_14 : decode prog_45_method_4_code 14 = .ok (.aload_n 0, 1) := by decide +kernel
theorem d4_15 : decode prog_45_method_4_code 15 = .ok (.getfield 7, 3) := by decide +kernel
theorem d4_18 : decode prog_45_method_4_code 18 = .ok (.aload_n 1, 1) := by decide +kernel
theorem d4_19 : decode prog_45_method_4_code 19 = .ok (.getfield 7, 3) := by decide +kernel
theorem d4_22 : decode prog_45_method_4_code 22 = .ok (.ldc2_w 19, 3) := by decide +kernel
theorem d4_25 : decode prog_45_method_4_code 25 = .ok (.dadd, 1) := by decide +kernel
theorem d4_26 : decode prog_45_method_4_code 26 = .ok (.dcmp .g, 1) := by decide +kernel
theorem d4_27 : decode prog_45_method_4_code 27 = .ok (.ifCond .gt 21, 3) := by decide +kernel
theorem d4_48 : decode prog_45_method_4_code 48 = .ok (.iconst 0, 1) := by decide +kernel
theorem ef_b0a (m : MethodId) (x0 : Addr) (x1 : Addr) (x2 : UInt64) : entryFrame m #[(.ref x0), (.ref x1), (.double x2)] 4 = mkF m 0 #[.val (.ref x0), .val (.ref x1), .val (.double x2), .second] [] := by first | (simp [entryFrame, mkF, argsToLocals, Value.category]; done) | rfl | (simp [entryFrame, mkF, argsToLocals, *]; done)
def Q_b0a (Z : State) (ba : Addr) (bb : Addr) (bg : UInt64) (bx : UInt64) (by_ : UInt64) (bt : UInt64) (bu : UInt64) (h0 : Heap) (n0 : Nat) (v : Option Value) (h : Heap) (L : List Loc) : Prop := v = some (.int (0 : Int32)) ∧ Fr n0 L ∧ h = h0
set_option maxRecDepth 65536 in
set_option maxHeartbeats 40000000 in
theorem b0a (l : Launch) (Z : State) (a0 : Array Value) (hw : ∀ d ∈ tables_1, d.before a0 Z = true) (ws : List Jvm.Cond) (ba : Addr) (bb : Addr) (bg : UInt64) (bx : UInt64) (by_ : UInt64) (bt : UInt64) (bu : UInt64) (h0 : Heap) (n0 : Nat) (Z0 : n0 ≤ h0.size) (F0_ba_value : Fld Z h0 ba "com/example/sortie/sortie/solver/Cost" "value" "D" (.double bx)) (F1_bb_value : Fld Z h0 bb "com/example/sortie/sortie/solver/Cost" "value" "D" (.double by_)) (F2_ba_tieBreak : Fld Z h0 ba "com/example/sortie/sortie/solver/Cost" "tieBreak" "D" (.double bt)) (F3_bb_tieBreak : Fld Z h0 bb "com/example/sortie/sortie/solver/Cost" "tieBreak" "D" (.double bu)) (n1 : NoNaN64 (FP.dsub by_ bg)) (n2 : NoNaN64 (FP.dadd by_ (4472406533629990549 : UInt64))) (h1 : ¬ (cmpValue (FP.dcmp bx (FP.dsub by_ bg)) .g < (0 : Int32))) (h2 : (0 : Int32) < cmpValue (FP.dcmp bx (FP.dadd by_ (4472406533629990549 : UInt64))) .g) :
    MetFree l (⟨"com/example/sortie/sortie/solver/Cost", "below", "(Lcom/example/sortie/sortie/solver/Cost;D)Z"⟩ : MethodName) (head1 (Jvm.Cond.code (⟨"com/example/sortie/sortie/solver/Cost", "below", "(Lcom/example/sortie/sortie/solver/Cost;D)Z"⟩ : MethodName) prog_45_method_4_code 4 (some .boolean) :: ws) ({ frames := 0, cells := 0, slots := 0, locals := 0 } : Room)) (fun a U => a = #[(.ref ba), (.ref bb), (.double bg)] ∧ Z.Warmed39 U.vm ∧ U.heap = h0) (fun _ _ _ _ _ => True) (fun _ U o U' => ∃ v L, o = .returned v ∧ Q_b0a Z ba bb bg bx by_ bt bu h0 n0 v U'.heap L ∧ FrameEnd U o U' L ({ frames := 0, cells := 0, slots := 0, locals := 0 } : Room).cells ({ frames := 0, cells := 0, slots := 0, locals := 0 } : Room).slots) := by
  refine MetFree.of_bodySF (plainFor_of_name pn_1) hisR ?_
  intro p e s m args below meth c s₁ Bd hml0 hP hK
  obtain ⟨rfl, hZ, hh⟩ := hP
  have hx := Bd.exec
  have hby := Bd.bytes
  have hml : c.maxLocals = 4 := hml0
  have hown : s.vm.findClass "com/example/sortie/sortie/solver/Cost" = some m.cls := findClass_of_methodNamed Bd.named
  have hnm := (name_of_methodNamed Bd.named Bd.method).1
  have X0 : Stand p l e ({ frames := 0, cells := 0, slots := 0, locals := 0 } : Room) s m #[(.ref ba), (.ref bb), (.double bg)] below meth c s₁ [] 0 0 := Stand.of_body Bd
  have e0 : s₁.heap = h0 := by rw [← hh, Bd.state]; rfl
  have N0 := Fr.nil n0
  obtain ⟨G, hG⟩ : ∃ G : State → Prop, G = (fun U' => ∃ o, U'.status = .running ∧ Ended U' below o ∧ ∃ v L, o = .returned v ∧ Q_b0a Z ba bb bg bx by_ bt bu h0 n0 v U'.heap L ∧ FrameEnd s o U' L ({ frames := 0, cells := 0, slots := 0, locals := 0 } : Room).cells ({ frames := 0, cells := 0, slots := 0, locals := 0 } : Room).slots) := ⟨_, rfl⟩
  suffices key : Gl p.tables e below s₁ (mkF m 0 #[.val (.ref ba), .val (.ref bb), .val (.double bg), .second] []) G by
    obtain ⟨s₂, k1, k2⟩ := key
    rw [hG] at k2
    obtain ⟨o, k3, k4, k5⟩ := k2
    exact ⟨s₂, o, castTop (ef_b0a m ba bb bg) k1, k3, k4, k5⟩
  show Gl p.tables e below s₁ (mkF m 0 #[.val (.ref ba), .val (.ref bb), .val (.double bg), .second] []) G
  refine Gl.via (fun _ k => XS.aloadN X0.here hx rfl (hb hby d4_0) rfl rfl k) ?_
  show Gl p.tables e below s₁ (mkF m 1 #[.val (.ref ba), .val (.ref bb), .val (.double bg), .second] [(.ref ba)]) G
  obtain ⟨T1, X1, e1, st1⟩ := getF X0 hx hZ hown (host := "") (Or.inl (hw _ (List.mem_of_getElem? (i := 16) rfl))) Via.refl e0 F0_ba_value (g := (mkF m 1 #[.val (.ref ba), .val (.ref bb), .val (.double bg), .second] [(.ref ba)])) rfl rfl (hb hby d4_1)
  refine Gl.via st1 ?_
  show Gl p.tables e below T1 (mkF m 4 #[.val (.ref ba), .val (.ref bb), .val (.double bg), .second] [(.double bx)]) G
  refine Gl.via (fun _ k => XS.aloadN X1.here hx rfl (hb hby d4_4) rfl rfl k) ?_
  show Gl p.tables e below T1 (mkF m 5 #[.val (.ref ba), .val (.ref bb), .val (.double bg), .second] [(.ref bb), (.double bx)]) G
  obtain ⟨T2, X2, e2, st2⟩ := getF X1 hx hZ hown (host := "") (Or.inl (hw _ (List.mem_of_getElem? (i := 16) rfl))) Via.refl e1 F1_bb_value (g := (mkF m 5 #[.val (.ref ba), .val (.ref bb), .val (.double bg), .second] [(.ref bb), (.double bx)])) rfl rfl (hb hby d4_5)
  refine Gl.via st2 ?_
  show Gl p.tables e below T2 (mkF m 8 #[.val (.ref ba), .val (.ref bb), .val (.double bg), .second] [(.double by_), (.double bx)]) G
  refine Gl.via (fun _ k => XS.dloadN X2.here hx rfl (hb hby d4_8) rfl k) ?_
  show Gl p.tables e below T2 (mkF m 9 #[.val (.ref ba), .val (.ref bb), .val (.double bg), .second] [(.double bg), (.double by_), (.double bx)]) G
  refine Gl.via (fun _ k => XS.dsubS X2.here hx rfl (hb hby d4_9) rfl n1 rfl k) ?_
  show Gl p.tables e below T2 (mkF m 10 #[.val (.ref ba), .val (.ref bb), .val (.double bg), .second] [(.double (FP.dsub by_ bg)), (.double bx)]) G
  refine Gl.via (fun _ k => XS.dcmpS X2.here hx rfl (v := (cmpValue (FP.dcmp bx (FP.dsub by_ bg)) .g)) (hb hby d4_10) rfl rfl k) ?_
  show Gl p.tables e below T2 (mkF m 11 #[.val (.ref ba), .val (.ref bb), .val (.double bg), .second] [(.int (cmpValue (FP.dcmp bx (FP.dsub by_ bg)) .g))]) G
  refine Gl.via (fun _ k => XS.ifNo X2.here hx rfl (hb hby d4_11) rfl ((if0 _ _).trans (flt h1).1) k) ?_
  show Gl p.tables e below T2 (mkF m 14 #[.val (.ref ba), .val (.ref bb), .val (.double bg), .second] []) G
  refine Gl.via (fun _ k => XS.aloadN X2.here hx rfl (hb hby d4_14) rfl rfl k) ?_
  show Gl p.tables e below T2 (mkF m 15 #[.val (.ref ba), .val (.ref bb), .val (.double bg), .second] [(.ref ba)]) G
  obtain ⟨T3, X3, e3, st3⟩ := getF X2 hx hZ hown (host := "") (Or.inl (hw _ (List.mem_of_getElem? (i := 16) rfl))) Via.refl e2 F0_ba_value (g := (mkF m 15 #[.val (.ref ba), .val (.ref bb), .val (.double bg), .second] [(.ref ba)])) rfl rfl (hb hby d4_15)
  refine Gl.via st3 ?_
  show Gl p.tables e below T3 (mkF m 18 #[.val (.ref ba), .val (.ref bb), .val (.double bg), .second] [(.double bx)]) G
  refine Gl.via (fun _ k => XS.aloadN X3.here hx rfl (hb hby d4_18) rfl rfl k) ?_
  show Gl p.tables e below T3 (mkF m 19 #[.val (.ref ba), .val (.ref bb), .val (.double bg), .second] [(.ref bb), (.double bx)]) G
  obtain ⟨T4, X4, e4, st4⟩ := getF X3 hx hZ hown (host := "") (Or.inl (hw _ (List.mem_of_getElem? (i := 16) rfl))) Via.refl e3 F1_bb_value (g := (mkF m 19 #[.val (.ref ba), .val (.ref bb), .val (.double bg), .second] [(.ref bb), (.double bx)])) rfl rfl (hb hby d4_19)
  refine Gl.via st4 ?_
  show Gl p.tables e below T4 (mkF m 22 #[.val (.ref ba), .val (.ref bb), .val (.double bg), .second] [(.double by_), (.double bx)]) G
  refine Gl.via (fun _ k => X4.ldc2DoubleC hx hown (mvT hZ (hw _ (List.mem_of_getElem? (i := 25) rfl))) (g := (mkF m 22 #[.val (.ref ba), .val (.ref bb), .val (.double bg), .second] [(.double by_), (.double bx)])) rfl (hb hby d4_22) _ k) ?_
  show Gl p.tables e below T4 (mkF m 25 #[.val (.ref ba), .val (.ref bb), .val (.double bg), .second] [(.double (4472406533629990549 : UInt64)), (.double by_), (.double bx)]) G
  refine Gl.via (fun _ k => XS.daddS X4.here hx rfl (hb hby d4_25) rfl n2 rfl k) ?_
  show Gl p.tables e below T4 (mkF m 26 #[.val (.ref ba), .val (.ref bb), .val (.double bg), .second] [(.double (FP.dadd by_ (4472406533629990549 : UInt64))), (.double bx)]) G
  refine Gl.via (fun _ k => XS.dcmpS X4.here hx rfl (v := (cmpValue (FP.dcmp bx (FP.dadd by_ (4472406533629990549 : UInt64))) .g)) (hb hby d4_26) rfl rfl k) ?_
  show Gl p.tables e below T4 (mkF m 27 #[.val (.ref ba), .val (.ref bb), .val (.double bg), .second] [(.int (cmpValue (FP.dcmp bx (FP.dadd by_ (4472406533629990549 : UInt64))) .g))]) G
  refine Gl.via (fun _ k => XS.ifYes X4.here hx rfl (pc0 := 27) (pc' := 48) rfl (hb hby d4_27) rfl ((if0 _ _).trans (tlt h2).2.2.1) (by decide) (by decide) k) ?_
  show Gl p.tables e below T4 (mkF m 48 #[.val (.ref ba), .val (.ref bb), .val (.double bg), .second] []) G
  refine Gl.via (fun _ k => XS.iconst X4.here hx rfl (hb hby d4_48) k) ?_
  show Gl p.tables e below T4 (mkF m 49 #[.val (.ref ba), .val (.ref bb), .val (.double bg), .second] [(.int (0 : Int32))]) G
  obtain ⟨fs, hr, hrun, hended, hW, hsame⟩ := X4.leave (v := some (.int (0 : Int32))) (fun h => by rw [Bd.returns] at h; cases h)
  have hq : ∀ L, Fr n0 L → Q_b0a Z ba bb bg bx by_ bt bu h0 n0 (some (.int (0 : Int32))) T4.heap L := by
    intro L hN
    rw [e4]
    exact ⟨rfl, hN, rfl⟩
  rw [hG]
  exact Gl.fin (retN X4 hx (t := .boolean) Bd.returns (by simp) (hb hby d4_49) hr) ⟨_, hrun, hended, _, _, rfl, hq _ N0, ⟨_, rfl⟩, hW, hsame.mono (by decide) (by decide)⟩
theorem d4_30 : decode prog_45_method_4_code 30 = .ok (.aload_n 0, 1) := by decide +kernel
theorem d4_31 : decode prog_45_method_4_code 31 = .ok (.getfield 13, 3) := by decide +kernel
theorem d4_34 : decode prog_45_method_4_code 34 = .ok (.aload_n 1, 1) := by decide +kernel
theorem d4_35 : decode prog_45_method_4_code 35 = .ok (.getfield 13, 3) := by decide +kernel
theorem d4_38 : decode prog_45_method_4_code 38 = .ok (.dload_n 2, 1) := by decide +kernel
theorem d4_39 : decode prog_45_method_4_code 39 = .ok (.dsub, 1) := by decide +kernel
theorem d4_40 : decode prog_45_method_4_code 40 = .ok (.dcmp .g, 1) := by decide +kernel
theorem d4_41 : decode prog_45_method_4_code 41 = .ok (.ifCond .ge 7, 3) := by decide +kernel
theorem ef_b1b (m : MethodId) (x0 : Addr) (x1 : Addr) (x2 : UInt64) : entryFrame m #[(.ref x0), (.ref x1), (.double x2)] 4 = mkF m 0 #[.val (.ref x0), .val (.ref x1), .val (.double x2), .second] [] := by first | (simp [entryFrame, mkF, argsToLocals, Value.category]; done) | rfl | (simp [entryFrame, mkF, argsToLocals, *]; done)
def Q_b1b (Z : State) (ba : Addr) (bb : Addr) (bg : UInt64) (bx : UInt64) (by_ : UInt64) (bt : UInt64) (bu : UInt64) (h0 : Heap) (n0 : Nat) (v : Option Value) (h : Heap) (L : List Loc) : Prop := v = some (.int (1 : Int32)) ∧ Fr n0 L ∧ h = h0
set_option maxRecDepth 65536 in
set_option maxHeartbeats 40000000 in
theorem b1b (l : Launch) (Z : State) (a0 : Array Value) (hw : ∀ d ∈ tables_1, d.before a0 Z = true) (ws : List Jvm.Cond) (ba : Addr) (bb : Addr) (bg : UInt64) (bx : UInt64) (by_ : UInt64) (bt : UInt64) (bu : UInt64) (h0 : Heap) (n0 : Nat) (Z0 : n0 ≤ h0.size) (F0_ba_value : Fld Z h0 ba "com/example/sortie/sortie/solver/Cost" "value" "D" (.double bx)) (F1_bb_value : Fld Z h0 bb "com/example/sortie/sortie/solver/Cost" "value" "D" (.double by_)) (F2_ba_tieBreak : Fld Z h0 ba "com/example/sortie/sortie/solver/Cost" "tieBreak" "D" (.double bt)) (F3_bb_tieBreak : Fld Z h0 bb "com/example/sortie/sortie/solver/Cost" "tieBreak" "D" (.double bu)) (n1 : NoNaN64 (FP.dsub by_ bg)) (n2 : NoNaN64 (FP.dadd by_ (4472406533629990549 : UInt64))) (n3 : NoNaN64 (FP.dsub bu bg)) (h1 : ¬ (cmpValue (FP.dcmp bx (FP.dsub by_ bg)) .g < (0 : Int32))) (h2 : ¬ ((0 : Int32) < cmpValue (FP.dcmp bx (FP.dadd by_ (4472406533629990549 : UInt64))) .g)) (h3 : cmpValue (FP.dcmp bt (FP.dsub bu bg)) .g < (0 : Int32)) :
    MetFree l (⟨"com/example/sortie/sortie/solver/Cost", "below", "(Lcom/example/sortie/sortie/solver/Cost;D)Z"⟩ : MethodName) (head1 (Jvm.Cond.code (⟨"com/example/sortie/sortie/solver/Cost", "below", "(Lcom/example/sortie/sortie/solver/Cost;D)Z"⟩ : MethodName) prog_45_method_4_code 4 (some .boolean) :: ws) ({ frames := 0, cells := 0, slots := 0, locals := 0 } : Room)) (fun a U => a = #[(.ref ba), (.ref bb), (.double bg)] ∧ Z.Warmed39 U.vm ∧ U.heap = h0) (fun _ _ _ _ _ => True) (fun _ U o U' => ∃ v L, o = .returned v ∧ Q_b1b Z ba bb bg bx by_ bt bu h0 n0 v U'.heap L ∧ FrameEnd U o U' L ({ frames := 0, cells := 0, slots := 0, locals := 0 } : Room).cells ({ frames := 0, cells := 0, slots := 0, locals := 0 } : Room).slots) := by
  refine MetFree.of_bodySF (plainFor_of_name pn_1) hisR ?_
  intro p e s m args below meth c s₁ Bd hml0 hP hK
  obtain ⟨rfl, hZ, hh⟩ := hP
  have hx := Bd.exec
  have hby := Bd.bytes
  have hml : c.maxLocals = 4 := hml0
  have hown : s.vm.findClass "com/example/sortie/sortie/solver/Cost" = some m.cls := findClass_of_methodNamed Bd.named
  have hnm := (name_of_methodNamed Bd.named Bd.method).1
  have X0 : Stand p l e ({ frames := 0, cells := 0, slots := 0, locals := 0 } : Room) s m #[(.ref ba), (.ref bb), (.double bg)] below meth c s₁ [] 0 0 := Stand.of_body Bd
  have e0 : s₁.heap = h0 := by rw [← hh, Bd.state]; rfl
  have N0 := Fr.nil n0
  obtain ⟨G, hG⟩ : ∃ G : State → Prop, G = (fun U' => ∃ o, U'.status = .running ∧ Ended U' below o ∧ ∃ v L, o = .returned v ∧ Q_b1b Z ba bb bg bx by_ bt bu h0 n0 v U'.heap L ∧ FrameEnd s o U' L ({ frames := 0, cells := 0, slots := 0, locals := 0 } : Room).cells ({ frames := 0, cells := 0, slots := 0, locals := 0 } : Room).slots) := ⟨_, rfl⟩
  suffices key : Gl p.tables e below s₁ (mkF m 0 #[.val (.ref ba), .val (.ref bb), .val (.double bg), .second] []) G by
    obtain ⟨s₂, k1, k2⟩ := key
    rw [hG] at k2
    obtain ⟨o, k3, k4, k5⟩ := k2
    exact ⟨s₂, o, castTop (ef_b1b m ba bb bg) k1, k3, k4, k5⟩
  show Gl p.tables e below s₁ (mkF m 0 #[.val (.ref ba), .val (.ref bb), .val (.double bg), .second] []) G
  refine Gl.via (fun _ k => XS.aloadN X0.here hx rfl (hb hby d4_0) rfl rfl k) ?_
  show Gl p.tables e below s₁ (mkF m 1 #[.val (.ref ba), .val (.ref bb), .val (.double bg), .second] [(.ref ba)]) G
  obtain ⟨T1, X1, e1, st1⟩ := getF X0 hx hZ hown (host := "") (Or.inl (hw _ (List.mem_of_getElem? (i := 16) rfl))) Via.refl e0 F0_ba_value (g := (mkF m 1 #[.val (.ref ba), .val (.ref bb), .val (.double bg), .second] [(.ref ba)])) rfl rfl (hb hby d4_1)
  refine Gl.via st1 ?_
  show Gl p.tables e below T1 (mkF m 4 #[.val (.ref ba), .val (.ref bb), .val (.double bg), .second] [(.double bx)]) G
  refine Gl.via (fun _ k => XS.aloadN X1.here hx rfl (hb hby d4_4) rfl rfl k) ?_
  show Gl p.tables e below T1 (mkF m 5 #[.val (.ref ba), .val (.ref bb), .val (.double bg), .second] [(.ref bb), (.double bx)]) G
  obtain ⟨T2, X2, e2, st2⟩ := getF X1 hx hZ hown (host := "") (Or.inl (hw _ (List.mem_of_getElem? (i := 16) rfl))) Via.refl e1 F1_bb_value (g := (mkF m 5 #[.val (.ref ba), .val (.ref bb), .val (.double bg), .second] [(.ref bb), (.double bx)])) rfl rfl (hb hby d4_5)
  refine Gl.via st2 ?_
  show Gl p.tables e below T2 (mkF m 8 #[.val (.ref ba), .val (.ref bb), .val (.double bg), .second] [(.double by_), (.double bx)]) G
  refine Gl.via (fun _ k => XS.dloadN X2.here hx rfl (hb hby d4_8) rfl k) ?_
  show Gl p.tables e below T2 (mkF m 9 #[.val (.ref ba), .val (.ref bb), .val (.double bg), .second] [(.double bg), (.double by_), (.double bx)]) G
  refine Gl.via (fun _ k => XS.dsubS X2.here hx rfl (hb hby d4_9) rfl n1 rfl k) ?_
  show Gl p.tables e below T2 (mkF m 10 #[.val (.ref ba), .val (.ref bb), .val (.double bg), .second] [(.double (FP.dsub by_ bg)), (.double bx)]) G
  refine Gl.via (fun _ k => XS.dcmpS X2.here hx rfl (v := (cmpValue (FP.dcmp bx (FP.dsub by_ bg)) .g)) (hb hby d4_10) rfl rfl k) ?_
  show Gl p.tables e below T2 (mkF m 11 #[.val (.ref ba), .val (.ref bb), .val (.double bg), .second] [(.int (cmpValue (FP.dcmp bx (FP.dsub by_ bg)) .g))]) G
  refine Gl.via (fun _ k => XS.ifNo X2.here hx rfl (hb hby d4_11) rfl ((if0 _ _).trans (flt h1).1) k) ?_
  show Gl p.tables e below T2 (mkF m 14 #[.val (.ref ba), .val (.ref bb), .val (.double bg), .second] []) G
  refine Gl.via (fun _ k => XS.aloadN X2.here hx rfl (hb hby d4_14) rfl rfl k) ?_
  show Gl p.tables e below T2 (mkF m 15 #[.val (.ref ba), .val (.ref bb), .val (.double bg), .second] [(.ref ba)]) G
  obtain ⟨T3, X3, e3, st3⟩ := getF X2 hx hZ hown (host := "") (Or.inl (hw _ (List.mem_of_getElem? (i := 16) rfl))) Via.refl e2 F0_ba_value (g := (mkF m 15 #[.val (.ref ba), .val (.ref bb), .val (.double bg), .second] [(.ref ba)])) rfl rfl (hb hby d4_15)
  refine Gl.via st3 ?_
  show Gl p.tables e below T3 (mkF m 18 #[.val (.ref ba), .val (.ref bb), .val (.double bg), .second] [(.double bx)]) G
  refine Gl.via (fun _ k => XS.aloadN X3.here hx rfl (hb hby d4_18) rfl rfl k) ?_
  show Gl p.tables e below T3 (mkF m 19 #[.val (.ref ba), .val (.ref bb), .val (.double bg), .second] [(.ref bb), (.double bx)]) G
  obtain ⟨T4, X4, e4, st4⟩ := getF X3 hx hZ hown (host := "") (Or.inl (hw _ (List.mem_of_getElem? (i := 16) rfl))) Via.refl e3 F1_bb_value (g := (mkF m 19 #[.val (.ref ba), .val (.ref bb), .val (.double bg), .second] [(.ref bb), (.double bx)])) rfl rfl (hb hby d4_19)
  refine Gl.via st4 ?_
  show Gl p.tables e below T4 (mkF m 22 #[.val (.ref ba), .val (.ref bb), .val (.double bg), .second] [(.double by_), (.double bx)]) G
  refine Gl.via (fun _ k => X4.ldc2DoubleC hx hown (mvT hZ (hw _ (List.mem_of_getElem? (i := 25) rfl))) (g := (mkF m 22 #[.val (.ref ba), .val (.ref bb), .val (.double bg), .second] [(.double by_), (.double bx)])) rfl (hb hby d4_22) _ k) ?_
  show Gl p.tables e below T4 (mkF m 25 #[.val (.ref ba), .val (.ref bb), .val (.double bg), .second] [(.double (4472406533629990549 : UInt64)), (.double by_), (.double bx)]) G
  refine Gl.via (fun _ k => XS.daddS X4.here hx rfl (hb hby d4_25) rfl n2 rfl k) ?_
  show Gl p.tables e below T4 (mkF m 26 #[.val (.ref ba), .val (.ref bb), .val (.double bg), .second] [(.double (FP.dadd by_ (4472406533629990549 : UInt64))), (.double bx)]) G
  refine Gl.via (fun _ k => XS.dcmpS X4.here hx rfl (v := (cmpValue (FP.dcmp bx (FP.dadd by_ (4472406533629990549 : UInt64))) .g)) (hb hby d4_26) rfl rfl k) ?_
  show Gl p.tables e below T4 (mkF m 27 #[.val (.ref ba), .val (.ref bb), .val (.double bg), .second] [(.int (cmpValue (FP.dcmp bx (FP.dadd by_ (4472406533629990549 : UInt64))) .g))]) G
  refine Gl.via (fun _ k => XS.ifNo X4.here hx rfl (hb hby d4_27) rfl ((if0 _ _).trans (flt h2).2.2.1) k) ?_
  show Gl p.tables e below T4 (mkF m 30 #[.val (.ref ba), .val (.ref bb), .val (.double bg), .second] []) G
  refine Gl.via (fun _ k => XS.aloadN X4.here hx rfl (hb hby d4_30) rfl rfl k) ?_
  show Gl p.tables e below T4 (mkF m 31 #[.val (.ref ba), .val (.ref bb), .val (.double bg), .second] [(.ref ba)]) G
  obtain ⟨T5, X5, e5, st5⟩ := getF X4 hx hZ hown (host := "") (Or.inl (hw _ (List.mem_of_getElem? (i := 18) rfl))) Via.refl e4 F2_ba_tieBreak (g := (mkF m 31 #[.val (.ref ba), .val (.ref bb), .val (.double bg), .second] [(.ref ba)])) rfl rfl (hb hby d4_31)
  refine Gl.via st5 ?_
  show Gl p.tables e below T5 (mkF m 34 #[.val (.ref ba), .val (.ref bb), .val (.double bg), .second] [(.double bt)]) G
  refine Gl.via (fun _ k => XS.aloadN X5.here hx rfl (hb hby d4_34) rfl rfl k) ?_
  show Gl p.tables e below T5 (mkF m 35 #[.val (.ref ba), .val (.ref bb), .val (.double bg), .second] [(.ref bb), (.double bt)]) G
  obtain ⟨T6, X6, e6, st6⟩ := getF X5 hx hZ hown (host := "") (Or.inl (hw _ (List.mem_of_getElem? (i := 18) rfl))) Via.refl e5 F3_bb_tieBreak (g := (mkF m 35 #[.val (.ref ba), .val (.ref bb), .val (.double bg), .second] [(.ref bb), (.double bt)])) rfl rfl (hb hby d4_35)
  refine Gl.via st6 ?_
  show Gl p.tables e below T6 (mkF m 38 #[.val (.ref ba), .val (.ref bb), .val (.double bg), .second] [(.double bu), (.double bt)]) G
  refine Gl.via (fun _ k => XS.dloadN X6.here hx rfl (hb hby d4_38) rfl k) ?_
  show Gl p.tables e below T6 (mkF m 39 #[.val (.ref ba), .val (.ref bb), .val (.double bg), .second] [(.double bg), (.double bu), (.double bt)]) G
  refine Gl.via (fun _ k => XS.dsubS X6.here hx rfl (hb hby d4_39) rfl n3 rfl k) ?_
  show Gl p.tables e below T6 (mkF m 40 #[.val (.ref ba), .val (.ref bb), .val (.double bg), .second] [(.double (FP.dsub bu bg)), (.double bt)]) G
  refine Gl.via (fun _ k => XS.dcmpS X6.here hx rfl (v := (cmpValue (FP.dcmp bt (FP.dsub bu bg)) .g)) (hb hby d4_40) rfl rfl k) ?_
  show Gl p.tables e below T6 (mkF m 41 #[.val (.ref ba), .val (.ref bb), .val (.double bg), .second] [(.int (cmpValue (FP.dcmp bt (FP.dsub bu bg)) .g))]) G
  refine Gl.via (fun _ k => XS.ifNo X6.here hx rfl (hb hby d4_41) rfl ((if0 _ _).trans (tlt h3).2.1) k) ?_
  show Gl p.tables e below T6 (mkF m 44 #[.val (.ref ba), .val (.ref bb), .val (.double bg), .second] []) G
  refine Gl.via (fun _ k => XS.iconst X6.here hx rfl (hb hby d4_44) k) ?_
  show Gl p.tables e below T6 (mkF m 45 #[.val (.ref ba), .val (.ref bb), .val (.double bg), .second] [(.int (1 : Int32))]) G
  refine Gl.via (fun _ k => XS.goto X6.here hx rfl (pc0 := 45) (pc' := 49) rfl (hb hby d4_45) (by decide) (by decide) k) ?_
  show Gl p.tables e below T6 (mkF m 49 #[.val (.ref ba), .val (.ref bb), .val (.double bg), .second] [(.int (1 : Int32))]) G
  obtain ⟨fs, hr, hrun, hended, hW, hsame⟩ := X6.leave (v := some (.int (1 : Int32))) (fun h => by rw [Bd.returns] at h; cases h)
  have hq : ∀ L, Fr n0 L → Q_b1b Z ba bb bg bx by_ bt bu h0 n0 (some (.int (1 : Int32))) T6.heap L := by
    intro L hN
    rw [e6]
    exact ⟨rfl, hN, rfl⟩
  rw [hG]
  exact Gl.fin (retN X6 hx (t := .boolean) Bd.returns (by simp) (hb hby d4_49) hr) ⟨_, hrun, hended, _, _, rfl, hq _ N0, ⟨_, rfl⟩, hW, hsame.mono (by decide) (by decide)⟩
theorem ef_b0b (m : MethodId) (x0 : Addr) (x1 : Addr) (x2 : UInt64) : entryFrame m #[(.ref x0), (.ref x1), (.double x2)] 4 = mkF m 0 #[.val (.ref x0), .val (.ref x1), .val (.double x2), .second] [] := by first | (simp [entryFrame, mkF, argsToLocals, Value.category]; done) | rfl | (simp [entryFrame, mkF, argsToLocals, *]; done)
def Q_b0b (Z : State) (ba : Addr) (bb : Addr) (bg : UInt64) (bx : UInt64) (by_ : UInt64) (bt : UInt64) (bu : UInt64) (h0 : Heap) (n0 : Nat) (v : Option Value) (h : Heap) (L : List Loc) : Prop := v = some (.int (0 : Int32)) ∧ Fr n0 L ∧ h = h0
set_option maxRecDepth 65536 in
set_option maxHeartbeats 40000000 in
theorem b0b (l : Launch) (Z : State) (a0 : Array Value) (hw : ∀ d ∈ tables_1, d.before a0 Z = true) (ws : List Jvm.Cond) (ba : Addr) (bb : Addr) (bg : UInt64) (bx : UInt64) (by_ : UInt64) (bt : UInt64) (bu : UInt64) (h0 : Heap) (n0 : Nat) (Z0 : n0 ≤ h0.size) (F0_ba_value : Fld Z h0 ba "com/example/sortie/sortie/solver/Cost" "value" "D" (.double bx)) (F1_bb_value : Fld Z h0 bb "com/example/sortie/sortie/solver/Cost" "value" "D" (.double by_)) (F2_ba_tieBreak : Fld Z h0 ba "com/example/sortie/sortie/solver/Cost" "tieBreak" "D" (.double bt)) (F3_bb_tieBreak : Fld Z h0 bb "com/example/sortie/sortie/solver/Cost" "tieBreak" "D" (.double bu)) (n1 : NoNaN64 (FP.dsub by_ bg)) (n2 : NoNaN64 (FP.dadd by_ (4472406533629990549 : UInt64))) (n3 : NoNaN64 (FP.dsub bu bg)) (h1 : ¬ (cmpValue (FP.dcmp bx (FP.dsub by_ bg)) .g < (0 : Int32))) (h2 : ¬ ((0 : Int32) < cmpValue (FP.dcmp bx (FP.dadd by_ (4472406533629990549 : UInt64))) .g)) (h3 : ¬ (cmpValue (FP.dcmp bt (FP.dsub bu bg)) .g < (0 : Int32))) :
    MetFree l (⟨"com/example/sortie/sortie/solver/Cost", "below", "(Lcom/example/sortie/sortie/solver/Cost;D)Z"⟩ : MethodName) (head1 (Jvm.Cond.code (⟨"com/example/sortie/sortie/solver/Cost", "below", "(Lcom/example/sortie/sortie/solver/Cost;D)Z"⟩ : MethodName) prog_45_method_4_code 4 (some .boolean) :: ws) ({ frames := 0, cells := 0, slots := 0, locals := 0 } : Room)) (fun a U => a = #[(.ref ba), (.ref bb), (.double bg)] ∧ Z.Warmed39 U.vm ∧ U.heap = h0) (fun _ _ _ _ _ => True) (fun _ U o U' => ∃ v L, o = .returned v ∧ Q_b0b Z ba bb bg bx by_ bt bu h0 n0 v U'.heap L ∧ FrameEnd U o U' L ({ frames := 0, cells := 0, slots := 0, locals := 0 } : Room).cells ({ frames := 0, cells := 0, slots := 0, locals := 0 } : Room).slots) := by
  refine MetFree.of_bodySF (plainFor_of_name pn_1) hisR ?_
  intro p e s m args below meth c s₁ Bd hml0 hP hK
  obtain ⟨rfl, hZ, hh⟩ := hP
  have hx := Bd.exec
  have hby := Bd.bytes
  have hml : c.maxLocals = 4 := hml0
  have hown : s.vm.findClass "com/example/sortie/sortie/solver/Cost" = some m.cls := findClass_of_methodNamed Bd.named
  have hnm := (name_of_methodNamed Bd.named Bd.method).1
  have X0 : Stand p l e ({ frames := 0, cells := 0, slots := 0, locals := 0 } : Room) s m #[(.ref ba), (.ref bb), (.double bg)] below meth c s₁ [] 0 0 := Stand.of_body Bd
  have e0 : s₁.heap = h0 := by rw [← hh, Bd.state]; rfl
  have N0 := Fr.nil n0
  obtain ⟨G, hG⟩ : ∃ G : State → Prop, G = (fun U' => ∃ o, U'.status = .running ∧ Ended U' below o ∧ ∃ v L, o = .returned v ∧ Q_b0b Z ba bb bg bx by_ bt bu h0 n0 v U'.heap L ∧ FrameEnd s o U' L ({ frames := 0, cells := 0, slots := 0, locals := 0 } : Room).cells ({ frames := 0, cells := 0, slots := 0, locals := 0 } : Room).slots) := ⟨_, rfl⟩
  suffices key : Gl p.tables e below s₁ (mkF m 0 #[.val (.ref ba), .val (.ref bb), .val (.double bg), .second] []) G by
    obtain ⟨s₂, k1, k2⟩ := key
    rw [hG] at k2
    obtain ⟨o, k3, k4, k5⟩ := k2
    exact ⟨s₂, o, castTop (ef_b0b m ba bb bg) k1, k3, k4, k5⟩
  show Gl p.tables e below s₁ (mkF m 0 #[.val (.ref ba), .val (.ref bb), .val (.double bg), .second] []) G
  refine Gl.via (fun _ k => XS.aloadN X0.here hx rfl (hb hby d4_0) rfl rfl k) ?_
  show Gl p.tables e below s₁ (mkF m 1 #[.val (.ref ba), .val (.ref bb), .val (.double bg), .second] [(.ref ba)]) G
  obtain ⟨T1, X1, e1, st1⟩ := getF X0 hx hZ hown (host := "") (Or.inl (hw _ (List.mem_of_getElem? (i := 16) rfl))) Via.refl e0 F0_ba_value (g := (mkF m 1 #[.val (.ref ba), .val (.ref bb), .val (.double bg), .second] [(.ref ba)])) rfl rfl (hb hby d4_1)
  refine Gl.via st1 ?_
  show Gl p.tables e below T1 (mkF m 4 #[.val (.ref ba), .val (.ref bb), .val (.double bg), .second] [(.double bx)]) G
  refine Gl.via (fun _ k => XS.aloadN X1.here hx rfl (hb hby d4_4) rfl rfl k) ?_
  show Gl p.tables e below T1 (mkF m 5 #[.val (.ref ba), .val (.ref bb), .val (.double bg), .second] [(.ref bb), (.double bx)]) G
  obtain ⟨T2, X2, e2, st2⟩ := getF X1 hx hZ hown (host := "") (Or.inl (hw _ (List.mem_of_getElem? (i := 16) rfl))) Via.refl e1 F1_bb_value (g := (mkF m 5 #[.val (.ref ba), .val (.ref bb), .val (.double bg), .second] [(.ref bb), (.double bx)])) rfl rfl (hb hby d4_5)
  refine Gl.via st2 ?_
  show Gl p.tables e below T2 (mkF m 8 #[.val (.ref ba), .val (.ref bb), .val (.double bg), .second] [(.double by_), (.double bx)]) G
  refine Gl.via (fun _ k => XS.dloadN X2.here hx rfl (hb hby d4_8) rfl k) ?_
  show Gl p.tables e below T2 (mkF m 9 #[.val (.ref ba), .val (.ref bb), .val (.double bg), .second] [(.double bg), (.double by_), (.double bx)]) G
  refine Gl.via (fun _ k => XS.dsubS X2.here hx rfl (hb hby d4_9) rfl n1 rfl k) ?_
  show Gl p.tables e below T2 (mkF m 10 #[.val (.ref ba), .val (.ref bb), .val (.double bg), .second] [(.double (FP.dsub by_ bg)), (.double bx)]) G
  refine Gl.via (fun _ k => XS.dcmpS X2.here hx rfl (v := (cmpValue (FP.dcmp bx (FP.dsub by_ bg)) .g)) (hb hby d4_10) rfl rfl k) ?_
  show Gl p.tables e below T2 (mkF m 11 #[.val (.ref ba), .val (.ref bb), .val (.double bg), .second] [(.int (cmpValue (FP.dcmp bx (FP.dsub by_ bg)) .g))]) G
  refine Gl.via (fun _ k => XS.ifNo X2.here hx rfl (hb hby d4_11) rfl ((if0 _ _).trans (flt h1).1) k) ?_
  show Gl p.tables e below T2 (mkF m 14 #[.val (.ref ba), .val (.ref bb), .val (.double bg), .second] []) G
  refine Gl.via (fun _ k => XS.aloadN X2.here hx rfl (hb hby d4_14) rfl rfl k) ?_
  show Gl p.tables e below T2 (mkF m 15 #[.val (.ref ba), .val (.ref bb), .val (.double bg), .second] [(.ref ba)]) G
  obtain ⟨T3, X3, e3, st3⟩ := getF X2 hx hZ hown (host := "") (Or.inl (hw _ (List.mem_of_getElem? (i := 16) rfl))) Via.refl e2 F0_ba_value (g := (mkF m 15 #[.val (.ref ba), .val (.ref bb), .val (.double bg), .second] [(.ref ba)])) rfl rfl (hb hby d4_15)
  refine Gl.via st3 ?_
  show Gl p.tables e below T3 (mkF m 18 #[.val (.ref ba), .val (.ref bb), .val (.double bg), .second] [(.double bx)]) G
  refine Gl.via (fun _ k => XS.aloadN X3.here hx rfl (hb hby d4_18) rfl rfl k) ?_
  show Gl p.tables e below T3 (mkF m 19 #[.val (.ref ba), .val (.ref bb), .val (.double bg), .second] [(.ref bb), (.double bx)]) G
  obtain ⟨T4, X4, e4, st4⟩ := getF X3 hx hZ hown (host := "") (Or.inl (hw _ (List.mem_of_getElem? (i := 16) rfl))) Via.refl e3 F1_bb_value (g := (mkF m 19 #[.val (.ref ba), .val (.ref bb), .val (.double bg), .second] [(.ref bb), (.double bx)])) rfl rfl (hb hby d4_19)
  refine Gl.via st4 ?_
  show Gl p.tables e below T4 (mkF m 22 #[.val (.ref ba), .val (.ref bb), .val (.double bg), .second] [(.double by_), (.double bx)]) G
  refine Gl.via (fun _ k => X4.ldc2DoubleC hx hown (mvT hZ (hw _ (List.mem_of_getElem? (i := 25) rfl))) (g := (mkF m 22 #[.val (.ref ba), .val (.ref bb), .val (.double bg), .second] [(.double by_), (.double bx)])) rfl (hb hby d4_22) _ k) ?_
  show Gl p.tables e below T4 (mkF m 25 #[.val (.ref ba), .val (.ref bb), .val (.double bg), .second] [(.double (4472406533629990549 : UInt64)), (.double by_), (.double bx)]) G
  refine Gl.via (fun _ k => XS.daddS X4.here hx rfl (hb hby d4_25) rfl n2 rfl k) ?_
  show Gl p.tables e below T4 (mkF m 26 #[.val (.ref ba), .val (.ref bb), .val (.double bg), .second] [(.double (FP.dadd by_ (4472406533629990549 : UInt64))), (.double bx)]) G
  refine Gl.via (fun _ k => XS.dcmpS X4.here hx rfl (v := (cmpValue (FP.dcmp bx (FP.dadd by_ (4472406533629990549 : UInt64))) .g)) (hb hby d4_26) rfl rfl k) ?_
  show Gl p.tables e below T4 (mkF m 27 #[.val (.ref ba), .val (.ref bb), .val (.double bg), .second] [(.int (cmpValue (FP.dcmp bx (FP.dadd by_ (4472406533629990549 : UInt64))) .g))]) G
  refine Gl.via (fun _ k => XS.ifNo X4.here hx rfl (hb hby d4_27) rfl ((if0 _ _).trans (flt h2).2.2.1) k) ?_
  show Gl p.tables e below T4 (mkF m 30 #[.val (.ref ba), .val (.ref bb), .val (.double bg), .second] []) G
  refine Gl.via (fun _ k => XS.aloadN X4.here hx rfl (hb hby d4_30) rfl rfl k) ?_
  show Gl p.tables e below T4 (mkF m 31 #[.val (.ref ba), .val (.ref bb), .val (.double bg), .second] [(.ref ba)]) G
  obtain ⟨T5, X5, e5, st5⟩ := getF X4 hx hZ hown (host := "") (Or.inl (hw _ (List.mem_of_getElem? (i := 18) rfl))) Via.refl e4 F2_ba_tieBreak (g := (mkF m 31 #[.val (.ref ba), .val (.ref bb), .val (.double bg), .second] [(.ref ba)])) rfl rfl (hb hby d4_31)
  refine Gl.via st5 ?_
  show Gl p.tables e below T5 (mkF m 34 #[.val (.ref ba), .val (.ref bb), .val (.double bg), .second] [(.double bt)]) G
  refine Gl.via (fun _ k => XS.aloadN X5.here hx rfl (hb hby d4_34) rfl rfl k) ?_
  show Gl p.tables e below T5 (mkF m 35 #[.val (.ref ba), .val (.ref bb), .val (.double bg), .second] [(.ref bb), (.double bt)]) G
  obtain ⟨T6, X6, e6, st6⟩ := getF X5 hx hZ hown (host := "") (Or.inl (hw _ (List.mem_of_getElem? (i := 18) rfl))) Via.refl e5 F3_bb_tieBreak (g := (mkF m 35 #[.val (.ref ba), .val (.ref bb), .val (.double bg), .second] [(.ref bb), (.double bt)])) rfl rfl (hb hby d4_35)
  refine Gl.via st6 ?_
  show Gl p.tables e below T6 (mkF m 38 #[.val (.ref ba), .val (.ref bb), .val (.double bg), .second] [(.double bu), (.double bt)]) G
  refine Gl.via (fun _ k => XS.dloadN X6.here hx rfl (hb hby d4_38) rfl k) ?_
  show Gl p.tables e below T6 (mkF m 39 #[.val (.ref ba), .val (.ref bb), .val (.double bg), .second] [(.double bg), (.double bu), (.double bt)]) G
  refine Gl.via (fun _ k => XS.dsubS X6.here hx rfl (hb hby d4_39) rfl n3 rfl k) ?_
  show Gl p.tables e below T6 (mkF m 40 #[.val (.ref ba), .val (.ref bb), .val (.double bg), .second] [(.double (FP.dsub bu bg)), (.double bt)]) G
  refine Gl.via (fun _ k => XS.dcmpS X6.here hx rfl (v := (cmpValue (FP.dcmp bt (FP.dsub bu bg)) .g)) (hb hby d4_40) rfl rfl k) ?_
  show Gl p.tables e below T6 (mkF m 41 #[.val (.ref ba), .val (.ref bb), .val (.double bg), .second] [(.int (cmpValue (FP.dcmp bt (FP.dsub bu bg)) .g))]) G
  refine Gl.via (fun _ k => XS.ifYes X6.here hx rfl (pc0 := 41) (pc' := 48) rfl (hb hby d4_41) rfl ((if0 _ _).trans (flt h3).2.1) (by decide) (by decide) k) ?_
  show Gl p.tables e below T6 (mkF m 48 #[.val (.ref ba), .val (.ref bb), .val (.double bg), .second] []) G
  refine Gl.via (fun _ k => XS.iconst X6.here hx rfl (hb hby d4_48) k) ?_
  show Gl p.tables e below T6 (mkF m 49 #[.val (.ref ba), .val (.ref bb), .val (.double bg), .second] [(.int (0 : Int32))]) G
  obtain ⟨fs, hr, hrun, hended, hW, hsame⟩ := X6.leave (v := some (.int (0 : Int32))) (fun h => by rw [Bd.returns] at h; cases h)
  have hq : ∀ L, Fr n0 L → Q_b0b Z ba bb bg bx by_ bt bu h0 n0 (some (.int (0 : Int32))) T6.heap L := by
    intro L hN
    rw [e6]
    exact ⟨rfl, hN, rfl⟩
  rw [hG]
  exact Gl.fin (retN X6 hx (t := .boolean) Bd.returns (by simp) (hb hby d4_49) hr) ⟨_, hrun, hended, _, _, rfl, hq _ N0, ⟨_, rfl⟩, hW, hsame.mono (by decide) (by decide)⟩
theorem pn_2 : plainName "com/example/sortie/sortie/solver/CostBelowPinLaw" = true := by first | (simp [plainName, overriddenIn]; done) | decide +kernel
theorem pd_1 : parseMethodDescriptor "(DD)V" = some ⟨[.double, .double], none⟩ := by decide +kernel
theorem pd_2 : parseMethodDescriptor "(Lcom/example/sortie/sortie/solver/Cost;D)Z" = some ⟨[(.object "com/example/sortie/sortie/solver/Cost"), .double], some .boolean⟩ := by decide +kernel
theorem ef_rm0 (m : MethodId) (x0 : Int32) (x1 : Int32) (x2 : Int32) (x3 : Int32) (x4 : Int32) (x5 : Int32) : entryFrame m #[(.int x0), (.int x1), (.int x2), (.int x3), (.int x4), (.int x5)] maxLocals = mkF m 0 #[.val (.int x0), .val (.int x1), .val (.int x2), .val (.int x3), .val (.int x4), .val (.int x5), .unset, .unset, .unset, .unset, .unset, .unset, .unset, .unset, .unset, .unset, .unset, .unset, .unset, .unset, .unset, .unset, .unset, .unset, .unset] [] := by first | (simp [entryFrame, mkF, argsToLocals, Value.category, maxLocals]; done) | rfl | (simp [entryFrame, mkF, argsToLocals, *]; done)
def Q_rm0 (Z : State) (p0 : Int32) (p1 : Int32) (p2 : Int32) (p3 : Int32) (p4 : Int32) (p5 : Int32) (h0 : Heap) (n0 : Nat) (v : Option Value) (h : Heap) (L : List Loc) : Prop := v = some (.int (1 : Int32)) ∧ Fr n0 L
set_option maxRecDepth 65536 in
set_option maxHeartbeats 40000000 in
theorem rm0 (l : Launch) (Z : State) (a0 : Array Value) (hw : ∀ d ∈ tables_1, d.before a0 Z = true) (ws : List Jvm.Cond) (p0 : Int32) (p1 : Int32) (p2 : Int32) (p3 : Int32) (p4 : Int32) (p5 : Int32) (h0 : Heap) (n0 : Nat) (Z0 : n0 ≤ h0.size) :
    MetFree l x (head1 (Jvm.Cond.code x code maxLocals ret :: ws) room_1) (fun a U => a = #[(.int p0), (.int p1), (.int p2), (.int p3), (.int p4), (.int p5)] ∧ Z.Warmed39 U.vm ∧ U.heap = h0) (fun _ _ _ _ _ => True) (fun _ U o U' => ∃ v L, o = .returned v ∧ Q_rm0 Z p0 p1 p2 p3 p4 p5 h0 n0 v U'.heap L ∧ FrameEnd U o U' L 2 4) := by
  refine MetFree.of_bodySF (plainFor_of_name pn_2) hisR ?_
  intro p e s m args below meth c s₁ Bd hml0 hP hK
  obtain ⟨rfl, hZ, hh⟩ := hP
  have hx := Bd.exec
  have hby := Bd.bytes
  have hml : c.maxLocals = 25 := hml0
  have hown : s.vm.findClass "com/example/sortie/sortie/solver/CostBelowPinLaw" = some m.cls := findClass_of_methodNamed Bd.named
  have hnm := (name_of_methodNamed Bd.named Bd.method).1
  have X0 : Stand p l e room_1 s m #[(.int p0), (.int p1), (.int p2), (.int p3), (.int p4), (.int p5)] below meth c s₁ [] 0 0 := Stand.of_body Bd
  have e0 : s₁.heap = h0 := by rw [← hh, Bd.state]; rfl
  have N0 := Fr.nil n0
  obtain ⟨G, hG⟩ : ∃ G : State → Prop, G = (fun U' => ∃ o, U'.status = .running ∧ Ended U' below o ∧ ∃ v L, o = .returned v ∧ Q_rm0 Z p0 p1 p2 p3 p4 p5 h0 n0 v U'.heap L ∧ FrameEnd s o U' L 2 4) := ⟨_, rfl⟩
  suffices key : Gl p.tables e below s₁ (mkF m 0 #[.val (.int p0), .val (.int p1), .val (.int p2), .val (.int p3), .val (.int p4), .val (.int p5), .unset, .unset, .unset, .unset, .unset, .unset, .unset, .unset, .unset, .unset, .unset, .unset, .unset, .unset, .unset, .unset, .unset, .unset, .unset] []) G by
    obtain ⟨s₂, k1, k2⟩ := key
    rw [hG] at k2
    obtain ⟨o, k3, k4, k5⟩ := k2
    exact ⟨s₂, o, castTop (ef_rm0 m p0 p1 p2 p3 p4 p5) k1, k3, k4, k5⟩
  show Gl p.tables e below s₁ (mkF m 0 #[.val (.int p0), .val (.int p1), .val (.int p2), .val (.int p3), .val (.int p4), .val (.int p5), .unset, .unset, .unset, .unset, .unset, .unset, .unset, .unset, .unset, .unset, .unset, .unset, .unset, .unset, .unset, .unset, .unset, .unset, .unset] []) G
  refine Gl.via (fun _ k => XS.iload X0.here hx rfl (hb hby at_0) rfl k) ?_
  show Gl p.tables e below s₁ (mkF m 2 #[.val (.int p0), .val (.int p1), .val (.int p2), .val (.int p3), .val (.int p4), .val (.int p5), .unset, .unset, .unset, .unset, .unset, .unset, .unset, .unset, .unset, .unset, .unset, .unset, .unset, .unset, .unset, .unset, .unset, .unset, .unset] [(.int p5)]) G
  refine Gl.via (fun _ k => XS.iconst X0.here hx rfl (hb hby at_2) k) ?_
  show Gl p.tables e below s₁ (mkF m 3 #[.val (.int p0), .val (.int p1), .val (.int p2), .val (.int p3), .val (.int p4), .val (.int p5), .unset, .unset, .unset, .unset, .unset, .unset, .unset, .unset, .unset, .unset, .unset, .unset, .unset, .unset, .unset, .unset, .unset, .unset, .unset] [(.int (1 : Int32)), (.int p5)]) G
  refine Gl.via (fun _ k => XS.iand X0.here hx rfl (hb hby at_3) rfl k) ?_
  show Gl p.tables e below s₁ (mkF m 4 #[.val (.int p0), .val (.int p1), .val (.int p2), .val (.int p3), .val (.int p4), .val (.int p5), .unset, .unset, .unset, .unset, .unset, .unset, .unset, .unset, .unset, .unset, .unset, .unset, .unset, .unset, .unset, .unset, .unset, .unset, .unset] [(.int (p5 &&& (1 : Int32)))]) G
  by_cases ff : (p5 &&& (1 : Int32)) = (0 : Int32)
  · refine Gl.via (fun _ k => XS.ifYes X0.here hx rfl (pc0 := 4) (pc' := 11) rfl (hb hby at_4) rfl ((if0 _ _).trans (teq ff).1) (by decide) (by decide) k) ?_
    show Gl p.tables e below s₁ (mkF m 11 #[.val (.int p0), .val (.int p1), .val (.int p2), .val (.int p3), .val (.int p4), .val (.int p5), .unset, .unset, .unset, .unset, .unset, .unset, .unset, .unset, .unset, .unset, .unset, .unset, .unset, .unset, .unset, .unset, .unset, .unset, .unset] []) G
    refine Gl.via (fun _ k => XS.iconst X0.here hx rfl (hb hby at_11) k) ?_
    show Gl p.tables e below s₁ (mkF m 12 #[.val (.int p0), .val (.int p1), .val (.int p2), .val (.int p3), .val (.int p4), .val (.int p5), .unset, .unset, .unset, .unset, .unset, .unset, .unset, .unset, .unset, .unset, .unset, .unset, .unset, .unset, .unset, .unset, .unset, .unset, .unset] [(.int (0 : Int32))]) G
    refine Gl.via (fun _ k => XS.istore X0.here hx rfl (hb hby at_12) rfl (l' := #[.val (.int p0), .val (.int p1), .val (.int p2), .val (.int p3), .val (.int p4), .val (.int p5), .val (.int (0 : Int32)), .unset, .unset, .unset, .unset, .unset, .unset, .unset, .unset, .unset, .unset, .unset, .unset, .unset, .unset, .unset, .unset, .unset, .unset]) rfl k) ?_
    show Gl p.tables e below s₁ (mkF m 14 #[.val (.int p0), .val (.int p1), .val (.int p2), .val (.int p3), .val (.int p4), .val (.int p5), .val (.int (0 : Int32)), .unset, .unset, .unset, .unset, .unset, .unset, .unset, .unset, .unset, .unset, .unset, .unset, .unset, .unset, .unset, .unset, .unset, .unset] []) G
    refine Gl.via (fun _ k => XS.iload X0.here hx rfl (hb hby at_14) rfl k) ?_
    show Gl p.tables e below s₁ (mkF m 16 #[.val (.int p0), .val (.int p1), .val (.int p2), .val (.int p3), .val (.int p4), .val (.int p5), .val (.int (0 : Int32)), .unset, .unset, .unset, .unset, .unset, .unset, .unset, .unset, .unset, .unset, .unset, .unset, .unset, .unset, .unset, .unset, .unset, .unset] [(.int (0 : Int32))]) G
    refine Gl.via (fun _ k => XS.ifYes X0.here hx rfl (pc0 := 16) (pc' := 25) rfl (hb hby at_16) rfl ((if0 _ _).trans (teq (by decide)).1) (by decide) (by decide) k) ?_
    show Gl p.tables e below s₁ (mkF m 25 #[.val (.int p0), .val (.int p1), .val (.int p2), .val (.int p3), .val (.int p4), .val (.int p5), .val (.int (0 : Int32)), .unset, .unset, .unset, .unset, .unset, .unset, .unset, .unset, .unset, .unset, .unset, .unset, .unset, .unset, .unset, .unset, .unset, .unset] []) G
    refine Gl.via (fun _ k => XS.dconst1 X0.here hx rfl (hb hby at_25) rfl k) ?_
    show Gl p.tables e below s₁ (mkF m 26 #[.val (.int p0), .val (.int p1), .val (.int p2), .val (.int p3), .val (.int p4), .val (.int p5), .val (.int (0 : Int32)), .unset, .unset, .unset, .unset, .unset, .unset, .unset, .unset, .unset, .unset, .unset, .unset, .unset, .unset, .unset, .unset, .unset, .unset] [(.double FP.dconst1)]) G
    refine Gl.via (fun _ k => XS.dstore X0.here hx rfl (hb hby at_26) rfl (l' := #[.val (.int p0), .val (.int p1), .val (.int p2), .val (.int p3), .val (.int p4), .val (.int p5), .val (.int (0 : Int32)), .val (.double FP.dconst1), .second, .unset, .unset, .unset, .unset, .unset, .unset, .unset, .unset, .unset, .unset, .unset, .unset, .unset, .unset, .unset, .unset]) rfl k) ?_
    show Gl p.tables e below s₁ (mkF m 28 #[.val (.int p0), .val (.int p1), .val (.int p2), .val (.int p3), .val (.int p4), .val (.int p5), .val (.int (0 : Int32)), .val (.double FP.dconst1), .second, .unset, .unset, .unset, .unset, .unset, .unset, .unset, .unset, .unset, .unset, .unset, .unset, .unset, .unset, .unset, .unset] []) G
    refine Gl.via (fun _ k => XS.iload X0.here hx rfl (hb hby at_28) rfl k) ?_
    show Gl p.tables e below s₁ (mkF m 30 #[.val (.int p0), .val (.int p1), .val (.int p2), .val (.int p3), .val (.int p4), .val (.int p5), .val (.int (0 : Int32)), .val (.double FP.dconst1), .second, .unset, .unset, .unset, .unset, .unset, .unset, .unset, .unset, .unset, .unset, .unset, .unset, .unset, .unset, .unset, .unset] [(.int (0 : Int32))]) G
    refine Gl.via (fun _ k => XS.ifYes X0.here hx rfl (pc0 := 30) (pc' := 39) rfl (hb hby at_30) rfl ((if0 _ _).trans (teq (by decide)).1) (by decide) (by decide) k) ?_
    show Gl p.tables e below s₁ (mkF m 39 #[.val (.int p0), .val (.int p1), .val (.int p2), .val (.int p3), .val (.int p4), .val (.int p5), .val (.int (0 : Int32)), .val (.double FP.dconst1), .second, .unset, .unset, .unset, .unset, .unset, .unset, .unset, .unset, .unset, .unset, .unset, .unset, .unset, .unset, .unset, .unset] []) G
    refine Gl.via (fun _ k => XS.lconst X0.here hx rfl (hb hby at_39) k) ?_
    show Gl p.tables e below s₁ (mkF m 40 #[.val (.int p0), .val (.int p1), .val (.int p2), .val (.int p3), .val (.int p4), .val (.int p5), .val (.int (0 : Int32)), .val (.double FP.dconst1), .second, .unset, .unset, .unset, .unset, .unset, .unset, .unset, .unset, .unset, .unset, .unset, .unset, .unset, .unset, .unset, .unset] [(.long (0 : Int64))]) G
    refine Gl.via (fun _ k => XS.lstore X0.here hx rfl (hb hby at_40) rfl (l' := #[.val (.int p0), .val (.int p1), .val (.int p2), .val (.int p3), .val (.int p4), .val (.int p5), .val (.int (0 : Int32)), .val (.double FP.dconst1), .second, .val (.long (0 : Int64)), .second, .unset, .unset, .unset, .unset, .unset, .unset, .unset, .unset, .unset, .unset, .unset, .unset, .unset, .unset]) rfl k) ?_
    show Gl p.tables e below s₁ (mkF m 42 #[.val (.int p0), .val (.int p1), .val (.int p2), .val (.int p3), .val (.int p4), .val (.int p5), .val (.int (0 : Int32)), .val (.double FP.dconst1), .second, .val (.long (0 : Int64)), .second, .unset, .unset, .unset, .unset, .unset, .unset, .unset, .unset, .unset, .unset, .unset, .unset, .unset, .unset] []) G
    refine Gl.via (fun _ k => XS.iloadN X0.here hx rfl (hb hby at_42) rfl k) ?_
    show Gl p.tables e below s₁ (mkF m 43 #[.val (.int p0), .val (.int p1), .val (.int p2), .val (.int p3), .val (.int p4), .val (.int p5), .val (.int (0 : Int32)), .val (.double FP.dconst1), .second, .val (.long (0 : Int64)), .second, .unset, .unset, .unset, .unset, .unset, .unset, .unset, .unset, .unset, .unset, .unset, .unset, .unset, .unset] [(.int p0)]) G
    refine Gl.via (fun _ k => XS.bipush X0.here hx rfl (hb hby at_43) k) ?_
    show Gl p.tables e below s₁ (mkF m 45 #[.val (.int p0), .val (.int p1), .val (.int p2), .val (.int p3), .val (.int p4), .val (.int p5), .val (.int (0 : Int32)), .val (.double FP.dconst1), .second, .val (.long (0 : Int64)), .second, .unset, .unset, .unset, .unset, .unset, .unset, .unset, .unset, .unset, .unset, .unset, .unset, .unset, .unset] [(.int (11 : Int32)), (.int p0)]) G
    refine Gl.via (fun _ k => XS.ishr X0.here hx rfl (hb hby at_45) rfl k) ?_
    show Gl p.tables e below s₁ (mkF m 46 #[.val (.int p0), .val (.int p1), .val (.int p2), .val (.int p3), .val (.int p4), .val (.int p5), .val (.int (0 : Int32)), .val (.double FP.dconst1), .second, .val (.long (0 : Int64)), .second, .unset, .unset, .unset, .unset, .unset, .unset, .unset, .unset, .unset, .unset, .unset, .unset, .unset, .unset] [(.int (p0 >>> ((11 : Int32) &&& 31)))]) G
    refine Gl.via (fun _ k => XS.i2l X0.here hx rfl (hb hby at_46) rfl k) ?_
    show Gl p.tables e below s₁ (mkF m 47 #[.val (.int p0), .val (.int p1), .val (.int p2), .val (.int p3), .val (.int p4), .val (.int p5), .val (.int (0 : Int32)), .val (.double FP.dconst1), .second, .val (.long (0 : Int64)), .second, .unset, .unset, .unset, .unset, .unset, .unset, .unset, .unset, .unset, .unset, .unset, .unset, .unset, .unset] [(.long ((p0 >>> ((11 : Int32) &&& 31)).toInt64))]) G
    refine Gl.via (fun _ k => XS.lstore X0.here hx rfl (hb hby at_47) rfl (l' := #[.val (.int p0), .val (.int p1), .val (.int p2), .val (.int p3), .val (.int p4), .val (.int p5), .val (.int (0 : Int32)), .val (.double FP.dconst1), .second, .val (.long (0 : Int64)), .second, .val (.long ((p0 >>> ((11 : Int32) &&& 31)).toInt64)), .second, .unset, .unset, .unset, .unset, .unset, .unset, .unset, .unset, .unset, .unset, .unset, .unset]) rfl k) ?_
    show Gl p.tables e below s₁ (mkF m 49 #[.val (.int p0), .val (.int p1), .val (.int p2), .val (.int p3), .val (.int p4), .val (.int p5), .val (.int (0 : Int32)), .val (.double FP.dconst1), .second, .val (.long (0 : Int64)), .second, .val (.long ((p0 >>> ((11 : Int32) &&& 31)).toInt64)), .second, .unset, .unset, .unset, .unset, .unset, .unset, .unset, .unset, .unset, .unset, .unset, .unset] []) G
    refine Gl.via (fun _ k => XS.lload X0.here hx rfl (hb hby at_49) rfl k) ?_
    show Gl p.tables e below s₁ (mkF m 51 #[.val (.int p0), .val (.int p1), .val (.int p2), .val (.int p3), .val (.int p4), .val (.int p5), .val (.int (0 : Int32)), .val (.double FP.dconst1), .second, .val (.long (0 : Int64)), .second, .val (.long ((p0 >>> ((11 : Int32) &&& 31)).toInt64)), .second, .unset, .unset, .unset, .unset, .unset, .unset, .unset, .unset, .unset, .unset, .unset, .unset] [(.long ((p0 >>> ((11 : Int32) &&& 31)).toInt64))]) G
    refine Gl.via (fun _ k => XS.iloadN X0.here hx rfl (hb hby at_51) rfl k) ?_
    show Gl p.tables e below s₁ (mkF m 52 #[.val (.int p0), .val (.int p1), .val (.int p2), .val (.int p3), .val (.int p4), .val (.int p5), .val (.int (0 : Int32)), .val (.double FP.dconst1), .second, .val (.long (0 : Int64)), .second, .val (.long ((p0 >>> ((11 : Int32) &&& 31)).toInt64)), .second, .unset, .unset, .unset, .unset, .unset, .unset, .unset, .unset, .unset, .unset, .unset, .unset] [(.int p1), (.long ((p0 >>> ((11 : Int32) &&& 31)).toInt64))]) G
    refine Gl.via (fun _ k => XS.bipush X0.here hx rfl (hb hby at_52) k) ?_
    show Gl p.tables e below s₁ (mkF m 54 #[.val (.int p0), .val (.int p1), .val (.int p2), .val (.int p3), .val (.int p4), .val (.int p5), .val (.int (0 : Int32)), .val (.double FP.dconst1), .second, .val (.long (0 : Int64)), .second, .val (.long ((p0 >>> ((11 : Int32) &&& 31)).toInt64)), .second, .unset, .unset, .unset, .unset, .unset, .unset, .unset, .unset, .unset, .unset, .unset, .unset] [(.int (15 : Int32)), (.int p1), (.long ((p0 >>> ((11 : Int32) &&& 31)).toInt64))]) G
    refine Gl.via (fun _ k => XS.iand X0.here hx rfl (hb hby at_54) rfl k) ?_
    show Gl p.tables e below s₁ (mkF m 55 #[.val (.int p0), .val (.int p1), .val (.int p2), .val (.int p3), .val (.int p4), .val (.int p5), .val (.int (0 : Int32)), .val (.double FP.dconst1), .second, .val (.long (0 : Int64)), .second, .val (.long ((p0 >>> ((11 : Int32) &&& 31)).toInt64)), .second, .unset, .unset, .unset, .unset, .unset, .unset, .unset, .unset, .unset, .unset, .unset, .unset] [(.int (p1 &&& (15 : Int32))), (.long ((p0 >>> ((11 : Int32) &&& 31)).toInt64))]) G
    refine Gl.via (fun _ k => XS.bipush X0.here hx rfl (hb hby at_55) k) ?_
    show Gl p.tables e below s₁ (mkF m 57 #[.val (.int p0), .val (.int p1), .val (.int p2), .val (.int p3), .val (.int p4), .val (.int p5), .val (.int (0 : Int32)), .val (.double FP.dconst1), .second, .val (.long (0 : Int64)), .second, .val (.long ((p0 >>> ((11 : Int32) &&& 31)).toInt64)), .second, .unset, .unset, .unset, .unset, .unset, .unset, .unset, .unset, .unset, .unset, .unset, .unset] [(.int (8 : Int32)), (.int (p1 &&& (15 : Int32))), (.long ((p0 >>> ((11 : Int32) &&& 31)).toInt64))]) G
    refine Gl.via (fun _ k => XS.isub X0.here hx rfl (hb hby at_57) rfl k) ?_
    show Gl p.tables e below s₁ (mkF m 58 #[.val (.int p0), .val (.int p1), .val (.int p2), .val (.int p3), .val (.int p4), .val (.int p5), .val (.int (0 : Int32)), .val (.double FP.dconst1), .second, .val (.long (0 : Int64)), .second, .val (.long ((p0 >>> ((11 : Int32) &&& 31)).toInt64)), .second, .unset, .unset, .unset, .unset, .unset, .unset, .unset, .unset, .unset, .unset, .unset, .unset] [(.int ((p1 &&& (15 : Int32)) - (8 : Int32))), (.long ((p0 >>> ((11 : Int32) &&& 31)).toInt64))]) G
    refine Gl.via (fun _ k => XS.i2l X0.here hx rfl (hb hby at_58) rfl k) ?_
    show Gl p.tables e below s₁ (mkF m 59 #[.val (.int p0), .val (.int p1), .val (.int p2), .val (.int p3), .val (.int p4), .val (.int p5), .val (.int (0 : Int32)), .val (.double FP.dconst1), .second, .val (.long (0 : Int64)), .second, .val (.long ((p0 >>> ((11 : Int32) &&& 31)).toInt64)), .second, .unset, .unset, .unset, .unset, .unset, .unset, .unset, .unset, .unset, .unset, .unset, .unset] [(.long (((p1 &&& (15 : Int32)) - (8 : Int32)).toInt64)), (.long ((p0 >>> ((11 : Int32) &&& 31)).toInt64))]) G
    refine Gl.via (fun _ k => XS.ladd X0.here hx rfl (hb hby at_59) rfl k) ?_
    show Gl p.tables e below s₁ (mkF m 60 #[.val (.int p0), .val (.int p1), .val (.int p2), .val (.int p3), .val (.int p4), .val (.int p5), .val (.int (0 : Int32)), .val (.double FP.dconst1), .second, .val (.long (0 : Int64)), .second, .val (.long ((p0 >>> ((11 : Int32) &&& 31)).toInt64)), .second, .unset, .unset, .unset, .unset, .unset, .unset, .unset, .unset, .unset, .unset, .unset, .unset] [(.long (((p0 >>> ((11 : Int32) &&& 31)).toInt64) + (((p1 &&& (15 : Int32)) - (8 : Int32)).toInt64)))]) G
    refine Gl.via (fun _ k => XS.lstore X0.here hx rfl (hb hby at_60) rfl (l' := #[.val (.int p0), .val (.int p1), .val (.int p2), .val (.int p3), .val (.int p4), .val (.int p5), .val (.int (0 : Int32)), .val (.double FP.dconst1), .second, .val (.long (0 : Int64)), .second, .val (.long ((p0 >>> ((11 : Int32) &&& 31)).toInt64)), .second, .val (.long (((p0 >>> ((11 : Int32) &&& 31)).toInt64) + (((p1 &&& (15 : Int32)) - (8 : Int32)).toInt64))), .second, .unset, .unset, .unset, .unset, .unset, .unset, .unset, .unset, .unset, .unset]) rfl k) ?_
    show Gl p.tables e below s₁ (mkF m 62 #[.val (.int p0), .val (.int p1), .val (.int p2), .val (.int p3), .val (.int p4), .val (.int p5), .val (.int (0 : Int32)), .val (.double FP.dconst1), .second, .val (.long (0 : Int64)), .second, .val (.long ((p0 >>> ((11 : Int32) &&& 31)).toInt64)), .second, .val (.long (((p0 >>> ((11 : Int32) &&& 31)).toInt64) + (((p1 &&& (15 : Int32)) - (8 : Int32)).toInt64))), .second, .unset, .unset, .unset, .unset, .unset, .unset, .unset, .unset, .unset, .unset] []) G
    refine Gl.via (fun _ k => XS.iloadN X0.here hx rfl (hb hby at_62) rfl k) ?_
    show Gl p.tables e below s₁ (mkF m 63 #[.val (.int p0), .val (.int p1), .val (.int p2), .val (.int p3), .val (.int p4), .val (.int p5), .val (.int (0 : Int32)), .val (.double FP.dconst1), .second, .val (.long (0 : Int64)), .second, .val (.long ((p0 >>> ((11 : Int32) &&& 31)).toInt64)), .second, .val (.long (((p0 >>> ((11 : Int32) &&& 31)).toInt64) + (((p1 &&& (15 : Int32)) - (8 : Int32)).toInt64))), .second, .unset, .unset, .unset, .unset, .unset, .unset, .unset, .unset, .unset, .unset] [(.int p2)]) G
    refine Gl.via (fun _ k => XS.bipush X0.here hx rfl (hb hby at_63) k) ?_
    show Gl p.tables e below s₁ (mkF m 65 #[.val (.int p0), .val (.int p1), .val (.int p2), .val (.int p3), .val (.int p4), .val (.int p5), .val (.int (0 : Int32)), .val (.double FP.dconst1), .second, .val (.long (0 : Int64)), .second, .val (.long ((p0 >>> ((11 : Int32) &&& 31)).toInt64)), .second, .val (.long (((p0 >>> ((11 : Int32) &&& 31)).toInt64) + (((p1 &&& (15 : Int32)) - (8 : Int32)).toInt64))), .second, .unset, .unset, .unset, .unset, .unset, .unset, .unset, .unset, .unset, .unset] [(.int (11 : Int32)), (.int p2)]) G
    refine Gl.via (fun _ k => XS.ishr X0.here hx rfl (hb hby at_65) rfl k) ?_
    show Gl p.tables e below s₁ (mkF m 66 #[.val (.int p0), .val (.int p1), .val (.int p2), .val (.int p3), .val (.int p4), .val (.int p5), .val (.int (0 : Int32)), .val (.double FP.dconst1), .second, .val (.long (0 : Int64)), .second, .val (.long ((p0 >>> ((11 : Int32) &&& 31)).toInt64)), .second, .val (.long (((p0 >>> ((11 : Int32) &&& 31)).toInt64) + (((p1 &&& (15 : Int32)) - (8 : Int32)).toInt64))), .second, .unset, .unset, .unset, .unset, .unset, .unset, .unset, .unset, .unset, .unset] [(.int (p2 >>> ((11 : Int32) &&& 31)))]) G
    refine Gl.via (fun _ k => XS.i2l X0.here hx rfl (hb hby at_66) rfl k) ?_
    show Gl p.tables e below s₁ (mkF m 67 #[.val (.int p0), .val (.int p1), .val (.int p2), .val (.int p3), .val (.int p4), .val (.int p5), .val (.int (0 : Int32)), .val (.double FP.dconst1), .second, .val (.long (0 : Int64)), .second, .val (.long ((p0 >>> ((11 : Int32) &&& 31)).toInt64)), .second, .val (.long (((p0 >>> ((11 : Int32) &&& 31)).toInt64) + (((p1 &&& (15 : Int32)) - (8 : Int32)).toInt64))), .second, .unset, .unset, .unset, .unset, .unset, .unset, .unset, .unset, .unset, .unset] [(.long ((p2 >>> ((11 : Int32) &&& 31)).toInt64))]) G
    refine Gl.via (fun _ k => XS.lstore X0.here hx rfl (hb hby at_67) rfl (l' := #[.val (.int p0), .val (.int p1), .val (.int p2), .val (.int p3), .val (.int p4), .val (.int p5), .val (.int (0 : Int32)), .val (.double FP.dconst1), .second, .val (.long (0 : Int64)), .second, .val (.long ((p0 >>> ((11 : Int32) &&& 31)).toInt64)), .second, .val (.long (((p0 >>> ((11 : Int32) &&& 31)).toInt64) + (((p1 &&& (15 : Int32)) - (8 : Int32)).toInt64))), .second, .val (.long ((p2 >>> ((11 : Int32) &&& 31)).toInt64)), .second, .unset, .unset, .unset, .unset, .unset, .unset, .unset, .unset]) rfl k) ?_
    show Gl p.tables e below s₁ (mkF m 69 #[.val (.int p0), .val (.int p1), .val (.int p2), .val (.int p3), .val (.int p4), .val (.int p5), .val (.int (0 : Int32)), .val (.double FP.dconst1), .second, .val (.long (0 : Int64)), .second, .val (.long ((p0 >>> ((11 : Int32) &&& 31)).toInt64)), .second, .val (.long (((p0 >>> ((11 : Int32) &&& 31)).toInt64) + (((p1 &&& (15 : Int32)) - (8 : Int32)).toInt64))), .second, .val (.long ((p2 >>> ((11 : Int32) &&& 31)).toInt64)), .second, .unset, .unset, .unset, .unset, .unset, .unset, .unset, .unset] []) G
    refine Gl.via (fun _ k => XS.lload X0.here hx rfl (hb hby at_69) rfl k) ?_
    show Gl p.tables e below s₁ (mkF m 71 #[.val (.int p0), .val (.int p1), .val (.int p2), .val (.int p3), .val (.int p4), .val (.int p5), .val (.int (0 : Int32)), .val (.double FP.dconst1), .second, .val (.long (0 : Int64)), .second, .val (.long ((p0 >>> ((11 : Int32) &&& 31)).toInt64)), .second, .val (.long (((p0 >>> ((11 : Int32) &&& 31)).toInt64) + (((p1 &&& (15 : Int32)) - (8 : Int32)).toInt64))), .second, .val (.long ((p2 >>> ((11 : Int32) &&& 31)).toInt64)), .second, .unset, .unset, .unset, .unset, .unset, .unset, .unset, .unset] [(.long ((p2 >>> ((11 : Int32) &&& 31)).toInt64))]) G
    refine Gl.via (fun _ k => XS.iloadN X0.here hx rfl (hb hby at_71) rfl k) ?_
    show Gl p.tables e below s₁ (mkF m 72 #[.val (.int p0), .val (.int p1), .val (.int p2), .val (.int p3), .val (.int p4), .val (.int p5), .val (.int (0 : Int32)), .val (.double FP.dconst1), .second, .val (.long (0 : Int64)), .second, .val (.long ((p0 >>> ((11 : Int32) &&& 31)).toInt64)), .second, .val (.long (((p0 >>> ((11 : Int32) &&& 31)).toInt64) + (((p1 &&& (15 : Int32)) - (8 : Int32)).toInt64))), .second, .val (.long ((p2 >>> ((11 : Int32) &&& 31)).toInt64)), .second, .unset, .unset, .unset, .unset, .unset, .unset, .unset, .unset] [(.int p3), (.long ((p2 >>> ((11 : Int32) &&& 31)).toInt64))]) G
    refine Gl.via (fun _ k => XS.bipush X0.here hx rfl (hb hby at_72) k) ?_
    show Gl p.tables e below s₁ (mkF m 74 #[.val (.int p0), .val (.int p1), .val (.int p2), .val (.int p3), .val (.int p4), .val (.int p5), .val (.int (0 : Int32)), .val (.double FP.dconst1), .second, .val (.long (0 : Int64)), .second, .val (.long ((p0 >>> ((11 : Int32) &&& 31)).toInt64)), .second, .val (.long (((p0 >>> ((11 : Int32) &&& 31)).toInt64) + (((p1 &&& (15 : Int32)) - (8 : Int32)).toInt64))), .second, .val (.long ((p2 >>> ((11 : Int32) &&& 31)).toInt64)), .second, .unset, .unset, .unset, .unset, .unset, .unset, .unset, .unset] [(.int (31 : Int32)), (.int p3), (.long ((p2 >>> ((11 : Int32) &&& 31)).toInt64))]) G
    refine Gl.via (fun _ k => XS.iand X0.here hx rfl (hb hby at_74) rfl k) ?_
    show Gl p.tables e below s₁ (mkF m 75 #[.val (.int p0), .val (.int p1), .val (.int p2), .val (.int p3), .val (.int p4), .val (.int p5), .val (.int (0 : Int32)), .val (.double FP.dconst1), .second, .val (.long (0 : Int64)), .second, .val (.long ((p0 >>> ((11 : Int32) &&& 31)).toInt64)), .second, .val (.long (((p0 >>> ((11 : Int32) &&& 31)).toInt64) + (((p1 &&& (15 : Int32)) - (8 : Int32)).toInt64))), .second, .val (.long ((p2 >>> ((11 : Int32) &&& 31)).toInt64)), .second, .unset, .unset, .unset, .unset, .unset, .unset, .unset, .unset] [(.int (p3 &&& (31 : Int32))), (.long ((p2 >>> ((11 : Int32) &&& 31)).toInt64))]) G
    refine Gl.via (fun _ k => XS.bipush X0.here hx rfl (hb hby at_75) k) ?_
    show Gl p.tables e below s₁ (mkF m 77 #[.val (.int p0), .val (.int p1), .val (.int p2), .val (.int p3), .val (.int p4), .val (.int p5), .val (.int (0 : Int32)), .val (.double FP.dconst1), .second, .val (.long (0 : Int64)), .second, .val (.long ((p0 >>> ((11 : Int32) &&& 31)).toInt64)), .second, .val (.long (((p0 >>> ((11 : Int32) &&& 31)).toInt64) + (((p1 &&& (15 : Int32)) - (8 : Int32)).toInt64))), .second, .val (.long ((p2 >>> ((11 : Int32) &&& 31)).toInt64)), .second, .unset, .unset, .unset, .unset, .unset, .unset, .unset, .unset] [(.int (16 : Int32)), (.int (p3 &&& (31 : Int32))), (.long ((p2 >>> ((11 : Int32) &&& 31)).toInt64))]) G
    refine Gl.via (fun _ k => XS.isub X0.here hx rfl (hb hby at_77) rfl k) ?_
    show Gl p.tables e below s₁ (mkF m 78 #[.val (.int p0), .val (.int p1), .val (.int p2), .val (.int p3), .val (.int p4), .val (.int p5), .val (.int (0 : Int32)), .val (.double FP.dconst1), .second, .val (.long (0 : Int64)), .second, .val (.long ((p0 >>> ((11 : Int32) &&& 31)).toInt64)), .second, .val (.long (((p0 >>> ((11 : Int32) &&& 31)).toInt64) + (((p1 &&& (15 : Int32)) - (8 : Int32)).toInt64))), .second, .val (.long ((p2 >>> ((11 : Int32) &&& 31)).toInt64)), .second, .unset, .unset, .unset, .unset, .unset, .unset, .unset, .unset] [(.int ((p3 &&& (31 : Int32)) - (16 : Int32))), (.long ((p2 >>> ((11 : Int32) &&& 31)).toInt64))]) G
    refine Gl.via (fun _ k => XS.i2l X0.here hx rfl (hb hby at_78) rfl k) ?_
    show Gl p.tables e below s₁ (mkF m 79 #[.val (.int p0), .val (.int p1), .val (.int p2), .val (.int p3), .val (.int p4), .val (.int p5), .val (.int (0 : Int32)), .val (.double FP.dconst1), .second, .val (.long (0 : Int64)), .second, .val (.long ((p0 >>> ((11 : Int32) &&& 31)).toInt64)), .second, .val (.long (((p0 >>> ((11 : Int32) &&& 31)).toInt64) + (((p1 &&& (15 : Int32)) - (8 : Int32)).toInt64))), .second, .val (.long ((p2 >>> ((11 : Int32) &&& 31)).toInt64)), .second, .unset, .unset, .unset, .unset, .unset, .unset, .unset, .unset] [(.long (((p3 &&& (31 : Int32)) - (16 : Int32)).toInt64)), (.long ((p2 >>> ((11 : Int32) &&& 31)).toInt64))]) G
    refine Gl.via (fun _ k => XS.ladd X0.here hx rfl (hb hby at_79) rfl k) ?_
    show Gl p.tables e below s₁ (mkF m 80 #[.val (.int p0), .val (.int p1), .val (.int p2), .val (.int p3), .val (.int p4), .val (.int p5), .val (.int (0 : Int32)), .val (.double FP.dconst1), .second, .val (.long (0 : Int64)), .second, .val (.long ((p0 >>> ((11 : Int32) &&& 31)).toInt64)), .second, .val (.long (((p0 >>> ((11 : Int32) &&& 31)).toInt64) + (((p1 &&& (15 : Int32)) - (8 : Int32)).toInt64))), .second, .val (.long ((p2 >>> ((11 : Int32) &&& 31)).toInt64)), .second, .unset, .unset, .unset, .unset, .unset, .unset, .unset, .unset] [(.long (((p2 >>> ((11 : Int32) &&& 31)).toInt64) + (((p3 &&& (31 : Int32)) - (16 : Int32)).toInt64)))]) G
    refine Gl.via (fun _ k => XS.lstore X0.here hx rfl (hb hby at_80) rfl (l' := #[.val (.int p0), .val (.int p1), .val (.int p2), .val (.int p3), .val (.int p4), .val (.int p5), .val (.int (0 : Int32)), .val (.double FP.dconst1), .second, .val (.long (0 : Int64)), .second, .val (.long ((p0 >>> ((11 : Int32) &&& 31)).toInt64)), .second, .val (.long (((p0 >>> ((11 : Int32) &&& 31)).toInt64) + (((p1 &&& (15 : Int32)) - (8 : Int32)).toInt64))), .second, .val (.long ((p2 >>> ((11 : Int32) &&& 31)).toInt64)), .second, .val (.long (((p2 >>> ((11 : Int32) &&& 31)).toInt64) + (((p3 &&& (31 : Int32)) - (16 : Int32)).toInt64))), .second, .unset, .unset, .unset, .unset, .unset, .unset]) rfl k) ?_
    show Gl p.tables e below s₁ (mkF m 82 #[.val (.int p0), .val (.int p1), .val (.int p2), .val (.int p3), .val (.int p4), .val (.int p5), .val (.int (0 : Int32)), .val (.double FP.dconst1), .second, .val (.long (0 : Int64)), .second, .val (.long ((p0 >>> ((11 : Int32) &&& 31)).toInt64)), .second, .val (.long (((p0 >>> ((11 : Int32) &&& 31)).toInt64) + (((p1 &&& (15 : Int32)) - (8 : Int32)).toInt64))), .second, .val (.long ((p2 >>> ((11 : Int32) &&& 31)).toInt64)), .second, .val (.long (((p2 >>> ((11 : Int32) &&& 31)).toInt64) + (((p3 &&& (31 : Int32)) - (16 : Int32)).toInt64))), .second, .unset, .unset, .unset, .unset, .unset, .unset] []) G
    refine Gl.via (fun _ k => XS.iload X0.here hx rfl (hb hby at_82) rfl k) ?_
    show Gl p.tables e below s₁ (mkF m 84 #[.val (.int p0), .val (.int p1), .val (.int p2), .val (.int p3), .val (.int p4), .val (.int p5), .val (.int (0 : Int32)), .val (.double FP.dconst1), .second, .val (.long (0 : Int64)), .second, .val (.long ((p0 >>> ((11 : Int32) &&& 31)).toInt64)), .second, .val (.long (((p0 >>> ((11 : Int32) &&& 31)).toInt64) + (((p1 &&& (15 : Int32)) - (8 : Int32)).toInt64))), .second, .val (.long ((p2 >>> ((11 : Int32) &&& 31)).toInt64)), .second, .val (.long (((p2 >>> ((11 : Int32) &&& 31)).toInt64) + (((p3 &&& (31 : Int32)) - (16 : Int32)).toInt64))), .second, .unset, .unset, .unset, .unset, .unset, .unset] [(.int p4)]) G
    refine Gl.via (fun _ k => XS.bipush X0.here hx rfl (hb hby at_84) k) ?_
    show Gl p.tables e below s₁ (mkF m 86 #[.val (.int p0), .val (.int p1), .val (.int p2), .val (.int p3), .val (.int p4), .val (.int p5), .val (.int (0 : Int32)), .val (.double FP.dconst1), .second, .val (.long (0 : Int64)), .second, .val (.long ((p0 >>> ((11 : Int32) &&& 31)).toInt64)), .second, .val (.long (((p0 >>> ((11 : Int32) &&& 31)).toInt64) + (((p1 &&& (15 : Int32)) - (8 : Int32)).toInt64))), .second, .val (.long ((p2 >>> ((11 : Int32) &&& 31)).toInt64)), .second, .val (.long (((p2 >>> ((11 : Int32) &&& 31)).toInt64) + (((p3 &&& (31 : Int32)) - (16 : Int32)).toInt64))), .second, .unset, .unset, .unset, .unset, .unset, .unset] [(.int (15 : Int32)), (.int p4)]) G
    refine Gl.via (fun _ k => XS.iand X0.here hx rfl (hb hby at_86) rfl k) ?_
    show Gl p.tables e below s₁ (mkF m 87 #[.val (.int p0), .val (.int p1), .val (.int p2), .val (.int p3), .val (.int p4), .val (.int p5), .val (.int (0 : Int32)), .val (.double FP.dconst1), .second, .val (.long (0 : Int64)), .second, .val (.long ((p0 >>> ((11 : Int32) &&& 31)).toInt64)), .second, .val (.long (((p0 >>> ((11 : Int32) &&& 31)).toInt64) + (((p1 &&& (15 : Int32)) - (8 : Int32)).toInt64))), .second, .val (.long ((p2 >>> ((11 : Int32) &&& 31)).toInt64)), .second, .val (.long (((p2 >>> ((11 : Int32) &&& 31)).toInt64) + (((p3 &&& (31 : Int32)) - (16 : Int32)).toInt64))), .second, .unset, .unset, .unset, .unset, .unset, .unset] [(.int (p4 &&& (15 : Int32)))]) G
    refine Gl.via (fun _ k => XS.bipush X0.here hx rfl (hb hby at_87) k) ?_
    show Gl p.tables e below s₁ (mkF m 89 #[.val (.int p0), .val (.int p1), .val (.int p2), .val (.int p3), .val (.int p4), .val (.int p5), .val (.int (0 : Int32)), .val (.double FP.dconst1), .second, .val (.long (0 : Int64)), .second, .val (.long ((p0 >>> ((11 : Int32) &&& 31)).toInt64)), .second, .val (.long (((p0 >>> ((11 : Int32) &&& 31)).toInt64) + (((p1 &&& (15 : Int32)) - (8 : Int32)).toInt64))), .second, .val (.long ((p2 >>> ((11 : Int32) &&& 31)).toInt64)), .second, .val (.long (((p2 >>> ((11 : Int32) &&& 31)).toInt64) + (((p3 &&& (31 : Int32)) - (16 : Int32)).toInt64))), .second, .unset, .unset, .unset, .unset, .unset, .unset] [(.int (8 : Int32)), (.int (p4 &&& (15 : Int32)))]) G
    refine Gl.via (fun _ k => XS.isub X0.here hx rfl (hb hby at_89) rfl k) ?_
    show Gl p.tables e below s₁ (mkF m 90 #[.val (.int p0), .val (.int p1), .val (.int p2), .val (.int p3), .val (.int p4), .val (.int p5), .val (.int (0 : Int32)), .val (.double FP.dconst1), .second, .val (.long (0 : Int64)), .second, .val (.long ((p0 >>> ((11 : Int32) &&& 31)).toInt64)), .second, .val (.long (((p0 >>> ((11 : Int32) &&& 31)).toInt64) + (((p1 &&& (15 : Int32)) - (8 : Int32)).toInt64))), .second, .val (.long ((p2 >>> ((11 : Int32) &&& 31)).toInt64)), .second, .val (.long (((p2 >>> ((11 : Int32) &&& 31)).toInt64) + (((p3 &&& (31 : Int32)) - (16 : Int32)).toInt64))), .second, .unset, .unset, .unset, .unset, .unset, .unset] [(.int ((p4 &&& (15 : Int32)) - (8 : Int32)))]) G
    refine Gl.via (fun _ k => XS.i2l X0.here hx rfl (hb hby at_90) rfl k) ?_
    show Gl p.tables e below s₁ (mkF m 91 #[.val (.int p0), .val (.int p1), .val (.int p2), .val (.int p3), .val (.int p4), .val (.int p5), .val (.int (0 : Int32)), .val (.double FP.dconst1), .second, .val (.long (0 : Int64)), .second, .val (.long ((p0 >>> ((11 : Int32) &&& 31)).toInt64)), .second, .val (.long (((p0 >>> ((11 : Int32) &&& 31)).toInt64) + (((p1 &&& (15 : Int32)) - (8 : Int32)).toInt64))), .second, .val (.long ((p2 >>> ((11 : Int32) &&& 31)).toInt64)), .second, .val (.long (((p2 >>> ((11 : Int32) &&& 31)).toInt64) + (((p3 &&& (31 : Int32)) - (16 : Int32)).toInt64))), .second, .unset, .unset, .unset, .unset, .unset, .unset] [(.long (((p4 &&& (15 : Int32)) - (8 : Int32)).toInt64))]) G
    refine Gl.via (fun _ k => XS.lstore X0.here hx rfl (hb hby at_91) rfl (l' := #[.val (.int p0), .val (.int p1), .val (.int p2), .val (.int p3), .val (.int p4), .val (.int p5), .val (.int (0 : Int32)), .val (.double FP.dconst1), .second, .val (.long (0 : Int64)), .second, .val (.long ((p0 >>> ((11 : Int32) &&& 31)).toInt64)), .second, .val (.long (((p0 >>> ((11 : Int32) &&& 31)).toInt64) + (((p1 &&& (15 : Int32)) - (8 : Int32)).toInt64))), .second, .val (.long ((p2 >>> ((11 : Int32) &&& 31)).toInt64)), .second, .val (.long (((p2 >>> ((11 : Int32) &&& 31)).toInt64) + (((p3 &&& (31 : Int32)) - (16 : Int32)).toInt64))), .second, .val (.long (((p4 &&& (15 : Int32)) - (8 : Int32)).toInt64)), .second, .unset, .unset, .unset, .unset]) rfl k) ?_
    show Gl p.tables e below s₁ (mkF m 93 #[.val (.int p0), .val (.int p1), .val (.int p2), .val (.int p3), .val (.int p4), .val (.int p5), .val (.int (0 : Int32)), .val (.double FP.dconst1), .second, .val (.long (0 : Int64)), .second, .val (.long ((p0 >>> ((11 : Int32) &&& 31)).toInt64)), .second, .val (.long (((p0 >>> ((11 : Int32) &&& 31)).toInt64) + (((p1 &&& (15 : Int32)) - (8 : Int32)).toInt64))), .second, .val (.long ((p2 >>> ((11 : Int32) &&& 31)).toInt64)), .second, .val (.long (((p2 >>> ((11 : Int32) &&& 31)).toInt64) + (((p3 &&& (31 : Int32)) - (16 : Int32)).toInt64))), .second, .val (.long (((p4 &&& (15 : Int32)) - (8 : Int32)).toInt64)), .second, .unset, .unset, .unset, .unset] []) G
    have hB0 := own_b p0
    have hT0 := own_b p2
    have hA : OwnS (((p0 >>> ((11 : Int32) &&& 31)).toInt64) + (((p1 &&& (15 : Int32)) - (8 : Int32)).toInt64)) := own_add hB0 (by have := own_d15 p1; omega)
    have hB : OwnS ((p0 >>> ((11 : Int32) &&& 31)).toInt64) := by have := hB0; show -2097152 ≤ _ ∧ _ ≤ 2097152; omega
    have hTA : OwnS (((p2 >>> ((11 : Int32) &&& 31)).toInt64) + (((p3 &&& (31 : Int32)) - (16 : Int32)).toInt64)) := own_add hT0 (own_d31 p3)
    have hTB : OwnS ((p2 >>> ((11 : Int32) &&& 31)).toInt64) := by have := hT0; show -2097152 ≤ _ ∧ _ ≤ 2097152; omega
    have hC : OwnS (((p4 &&& (15 : Int32)) - (8 : Int32)).toInt64) := by have := own_d15 p4; show -2097152 ≤ _ ∧ _ ≤ 2097152; omega
    clear hB0 hT0
    generalize (((p0 >>> ((11 : Int32) &&& 31)).toInt64) + (((p1 &&& (15 : Int32)) - (8 : Int32)).toInt64)) = va at *
    generalize (((p2 >>> ((11 : Int32) &&& 31)).toInt64) + (((p3 &&& (31 : Int32)) - (16 : Int32)).toInt64)) = vt at *
    generalize ((p0 >>> ((11 : Int32) &&& 31)).toInt64) = vb at *
    generalize ((p2 >>> ((11 : Int32) &&& 31)).toInt64) = vu at *
    generalize (((p4 &&& (15 : Int32)) - (8 : Int32)).toInt64) = vc at *
    show Gl p.tables e below s₁ (mkF m 93 #[.val (.int p0), .val (.int p1), .val (.int p2), .val (.int p3), .val (.int p4), .val (.int p5), .val (.int (0 : Int32)), .val (.double FP.dconst1), .second, .val (.long (0 : Int64)), .second, .val (.long vb), .second, .val (.long va), .second, .val (.long vu), .second, .val (.long vt), .second, .val (.long vc), .second, .unset, .unset, .unset, .unset] []) G
    obtain ⟨T1, h1, X1, e1, E1, A1, D1, -, st1⟩ := newO X0 hx hZ hown (hw _ (List.mem_of_getElem? (i := 2) rfl)) (hw _ (List.mem_of_getElem? (i := 3) rfl)) (hw _ (List.mem_of_getElem? (i := 4) rfl)) e0 (g := (mkF m 93 #[.val (.int p0), .val (.int p1), .val (.int p2), .val (.int p3), .val (.int p4), .val (.int p5), .val (.int (0 : Int32)), .val (.double FP.dconst1), .second, .val (.long (0 : Int64)), .second, .val (.long vb), .second, .val (.long va), .second, .val (.long vu), .second, .val (.long vt), .second, .val (.long vc), .second, .unset, .unset, .unset, .unset] [])) rfl (hb hby at_93) (by decide) (by decide)
    obtain ⟨b1, g1⟩ : ∃ z, z = h0.size := ⟨_, rfl⟩
    rw [← g1] at A1 D1 st1
    have ge2 : n0 ≤ b1 := Nat.le_trans Z0 (Nat.le_of_eq g1.symm)
    have gz3 : h0.size ≤ b1 := Nat.le_trans (Nat.le_refl h0.size) (Nat.le_of_eq g1.symm)
    refine Gl.via st1 ?_
    have Z4 : n0 ≤ h1.size := Nat.le_trans Z0 E1.1
    have Y5 : h0.size ≤ h1.size := Nat.le_trans (Nat.le_refl h0.size) E1.1
    have F6 : Fld Z h1 b1 "com/example/sortie/sortie/solver/Cost" "value" "D" (.double (0 : UInt64)) := D1 (Or.inr (hw _ (List.mem_of_getElem? (i := 17) rfl))) (ty := .double) (by decide)
    have F7 : Fld Z h1 b1 "com/example/sortie/sortie/solver/Cost" "tieBreak" "D" (.double (0 : UInt64)) := D1 (Or.inr (hw _ (List.mem_of_getElem? (i := 19) rfl))) (ty := .double) (by decide)
    show Gl p.tables e below T1 (mkF m 96 #[.val (.int p0), .val (.int p1), .val (.int p2), .val (.int p3), .val (.int p4), .val (.int p5), .val (.int (0 : Int32)), .val (.double FP.dconst1), .second, .val (.long (0 : Int64)), .second, .val (.long vb), .second, .val (.long va), .second, .val (.long vu), .second, .val (.long vt), .second, .val (.long vc), .second, .unset, .unset, .unset, .unset] [(.ref b1)]) G
    refine Gl.via (fun _ k => XS.dup X1.here hx rfl (hb hby at_96) rfl rfl k) ?_
    show Gl p.tables e below T1 (mkF m 97 #[.val (.int p0), .val (.int p1), .val (.int p2), .val (.int p3), .val (.int p4), .val (.int p5), .val (.int (0 : Int32)), .val (.double FP.dconst1), .second, .val (.long (0 : Int64)), .second, .val (.long vb), .second, .val (.long va), .second, .val (.long vu), .second, .val (.long vt), .second, .val (.long vc), .second, .unset, .unset, .unset, .unset] [(.ref b1), (.ref b1)]) G
    refine Gl.via (fun _ k => XS.lload X1.here hx rfl (hb hby at_97) rfl k) ?_
    show Gl p.tables e below T1 (mkF m 99 #[.val (.int p0), .val (.int p1), .val (.int p2), .val (.int p3), .val (.int p4), .val (.int p5), .val (.int (0 : Int32)), .val (.double FP.dconst1), .second, .val (.long (0 : Int64)), .second, .val (.long vb), .second, .val (.long va), .second, .val (.long vu), .second, .val (.long vt), .second, .val (.long vc), .second, .unset, .unset, .unset, .unset] [(.long va), (.ref b1), (.ref b1)]) G
    refine Gl.via (fun _ k => XS.l2dS X1.here hx rfl (hb hby at_99) rfl rfl k) ?_
    show Gl p.tables e below T1 (mkF m 100 #[.val (.int p0), .val (.int p1), .val (.int p2), .val (.int p3), .val (.int p4), .val (.int p5), .val (.int (0 : Int32)), .val (.double FP.dconst1), .second, .val (.long (0 : Int64)), .second, .val (.long vb), .second, .val (.long va), .second, .val (.long vu), .second, .val (.long vt), .second, .val (.long vc), .second, .unset, .unset, .unset, .unset] [(.double (FP.l2d va)), (.ref b1), (.ref b1)]) G
    refine Gl.via (fun _ k => XS.dload X1.here hx rfl (hb hby at_100) rfl k) ?_
    show Gl p.tables e below T1 (mkF m 102 #[.val (.int p0), .val (.int p1), .val (.int p2), .val (.int p3), .val (.int p4), .val (.int p5), .val (.int (0 : Int32)), .val (.double FP.dconst1), .second, .val (.long (0 : Int64)), .second, .val (.long vb), .second, .val (.long va), .second, .val (.long vu), .second, .val (.long vt), .second, .val (.long vc), .second, .unset, .unset, .unset, .unset] [(.double FP.dconst1), (.double (FP.l2d va)), (.ref b1), (.ref b1)]) G
    refine Gl.via (fun _ k => XS.dmulS X1.here hx rfl (hb hby at_102) rfl (dmul_out (l2d_fin _) own_one_fin) rfl k) ?_
    show Gl p.tables e below T1 (mkF m 103 #[.val (.int p0), .val (.int p1), .val (.int p2), .val (.int p3), .val (.int p4), .val (.int p5), .val (.int (0 : Int32)), .val (.double FP.dconst1), .second, .val (.long (0 : Int64)), .second, .val (.long vb), .second, .val (.long va), .second, .val (.long vu), .second, .val (.long vt), .second, .val (.long vc), .second, .unset, .unset, .unset, .unset] [(.double (FP.dmul (FP.l2d va) FP.dconst1)), (.ref b1), (.ref b1)]) G
    refine Gl.via (fun _ k => XS.lload X1.here hx rfl (hb hby at_103) rfl k) ?_
    show Gl p.tables e below T1 (mkF m 105 #[.val (.int p0), .val (.int p1), .val (.int p2), .val (.int p3), .val (.int p4), .val (.int p5), .val (.int (0 : Int32)), .val (.double FP.dconst1), .second, .val (.long (0 : Int64)), .second, .val (.long vb), .second, .val (.long va), .second, .val (.long vu), .second, .val (.long vt), .second, .val (.long vc), .second, .unset, .unset, .unset, .unset] [(.long vt), (.double (FP.dmul (FP.l2d va) FP.dconst1)), (.ref b1), (.ref b1)]) G
    refine Gl.via (fun _ k => XS.l2dS X1.here hx rfl (hb hby at_105) rfl rfl k) ?_
    show Gl p.tables e below T1 (mkF m 106 #[.val (.int p0), .val (.int p1), .val (.int p2), .val (.int p3), .val (.int p4), .val (.int p5), .val (.int (0 : Int32)), .val (.double FP.dconst1), .second, .val (.long (0 : Int64)), .second, .val (.long vb), .second, .val (.long va), .second, .val (.long vu), .second, .val (.long vt), .second, .val (.long vc), .second, .unset, .unset, .unset, .unset] [(.double (FP.l2d vt)), (.double (FP.dmul (FP.l2d va) FP.dconst1)), (.ref b1), (.ref b1)]) G
    refine Gl.via (fun _ k => XS.dload X1.here hx rfl (hb hby at_106) rfl k) ?_
    show Gl p.tables e below T1 (mkF m 108 #[.val (.int p0), .val (.int p1), .val (.int p2), .val (.int p3), .val (.int p4), .val (.int p5), .val (.int (0 : Int32)), .val (.double FP.dconst1), .second, .val (.long (0 : Int64)), .second, .val (.long vb), .second, .val (.long va), .second, .val (.long vu), .second, .val (.long vt), .second, .val (.long vc), .second, .unset, .unset, .unset, .unset] [(.double FP.dconst1), (.double (FP.l2d vt)), (.double (FP.dmul (FP.l2d va) FP.dconst1)), (.ref b1), (.ref b1)]) G
    refine Gl.via (fun _ k => XS.dmulS X1.here hx rfl (hb hby at_108) rfl (dmul_out (l2d_fin _) own_one_fin) rfl k) ?_
    show Gl p.tables e below T1 (mkF m 109 #[.val (.int p0), .val (.int p1), .val (.int p2), .val (.int p3), .val (.int p4), .val (.int p5), .val (.int (0 : Int32)), .val (.double FP.dconst1), .second, .val (.long (0 : Int64)), .second, .val (.long vb), .second, .val (.long va), .second, .val (.long vu), .second, .val (.long vt), .second, .val (.long vc), .second, .unset, .unset, .unset, .unset] [(.double (FP.dmul (FP.l2d vt) FP.dconst1)), (.double (FP.dmul (FP.l2d va) FP.dconst1)), (.ref b1), (.ref b1)]) G
    obtain ⟨_, _, ⟨T8, L8, k8, n8⟩, -, X8, ⟨Lc8, hQ8, l8, y8, z8⟩, st8⟩ := X1.specialBack hx (y := (⟨"com/example/sortie/sortie/solver/Cost", "<init>", "(DD)V"⟩ : MethodName)) rfl hown (mvT hZ (hw _ (List.mem_of_getElem? (i := 5) rfl))) (mvT hZ (hw _ (List.mem_of_getElem? (i := 6) rfl))) (mvT hZ (hw _ (List.mem_of_getElem? (i := 7) rfl))) (by decide) (backOf (W := 1) (c_init l Z a0 hw [] b1 (FP.dmul (FP.l2d va) FP.dconst1) (FP.dmul (FP.l2d vt) FP.dconst1) (.double (0 : UInt64)) (.double (0 : UInt64)) h1 n0 Z4 A1 F6 F7 ge2) hZ (hw _ (List.mem_of_getElem? (i := 7) rfl)) (hw _ (List.mem_of_getElem? (i := 4) rfl)) (by decide) (by decide)) (g := (mkF m 109 #[.val (.int p0), .val (.int p1), .val (.int p2), .val (.int p3), .val (.int p4), .val (.int p5), .val (.int (0 : Int32)), .val (.double FP.dconst1), .second, .val (.long (0 : Int64)), .second, .val (.long vb), .second, .val (.long va), .second, .val (.long vu), .second, .val (.long vt), .second, .val (.long vc), .second, .unset, .unset, .unset, .unset] [(.double (FP.dmul (FP.l2d vt) FP.dconst1)), (.double (FP.dmul (FP.l2d va) FP.dconst1)), (.ref b1), (.ref b1)])) rfl (by rw [hml]; rfl) (Steps.refl _) (a := b1) (argsL := [(.double (FP.dmul (FP.l2d va) FP.dconst1)), (.double (FP.dmul (FP.l2d vt) FP.dconst1))]) (rest := [(.ref b1)]) (lenOf pd_1 rfl) rfl (by show 2 * 0 + _ ≤ _; exact Nat.le_of_eq rfl) (hb hby at_109) (fun _ _ => ⟨rfl, e1, (by decide : 1 + 0 ≤ _), (by decide : 2 + 0 ≤ _)⟩)
    dsimp only [Pt.U, Pt.locs, Pt.cells, Pt.slots] at X8 l8 y8 z8 st8 hQ8
    subst l8 y8 z8
    obtain ⟨rfl, N8q, K8, P9, P10, P11⟩ := hQ8
    have N8_ := Fr.app N0 N8q
    refine Gl.via (fun _ k => st8.trans k) ?_
    have Z12 : n0 ≤ T8.heap.size := Nat.le_trans Z4 K8.1
    have Y13 : h0.size ≤ T8.heap.size := Nat.le_trans Y5 K8.1
    show Gl p.tables e below T8 (mkF m 112 #[.val (.int p0), .val (.int p1), .val (.int p2), .val (.int p3), .val (.int p4), .val (.int p5), .val (.int (0 : Int32)), .val (.double FP.dconst1), .second, .val (.long (0 : Int64)), .second, .val (.long vb), .second, .val (.long va), .second, .val (.long vu), .second, .val (.long vt), .second, .val (.long vc), .second, .unset, .unset, .unset, .unset] [(.ref b1)]) G
    refine Gl.via (fun _ k => XS.astore X8.here hx rfl (hb hby at_112) rfl rfl (l' := #[.val (.int p0), .val (.int p1), .val (.int p2), .val (.int p3), .val (.int p4), .val (.int p5), .val (.int (0 : Int32)), .val (.double FP.dconst1), .second, .val (.long (0 : Int64)), .second, .val (.long vb), .second, .val (.long va), .second, .val (.long vu), .second, .val (.long vt), .second, .val (.long vc), .second, .val (.ref b1), .unset, .unset, .unset]) rfl k) ?_
    show Gl p.tables e below T8 (mkF m 114 #[.val (.int p0), .val (.int p1), .val (.int p2), .val (.int p3), .val (.int p4), .val (.int p5), .val (.int (0 : Int32)), .val (.double FP.dconst1), .second, .val (.long (0 : Int64)), .second, .val (.long vb), .second, .val (.long va), .second, .val (.long vu), .second, .val (.long vt), .second, .val (.long vc), .second, .val (.ref b1), .unset, .unset, .unset] []) G
    obtain ⟨T14, h14, X14, e14, E14, A14, D14, -, st14⟩ := newO X8 hx hZ hown (hw _ (List.mem_of_getElem? (i := 2) rfl)) (hw _ (List.mem_of_getElem? (i := 3) rfl)) (hw _ (List.mem_of_getElem? (i := 4) rfl)) rfl (g := (mkF m 114 #[.val (.int p0), .val (.int p1), .val (.int p2), .val (.int p3), .val (.int p4), .val (.int p5), .val (.int (0 : Int32)), .val (.double FP.dconst1), .second, .val (.long (0 : Int64)), .second, .val (.long vb), .second, .val (.long va), .second, .val (.long vu), .second, .val (.long vt), .second, .val (.long vc), .second, .val (.ref b1), .unset, .unset, .unset] [])) rfl (hb hby at_114) (by decide) (by decide)
    obtain ⟨b14, g14⟩ : ∃ z, z = T8.heap.size := ⟨_, rfl⟩
    rw [← g14] at A14 D14 st14
    have ne15 : b1 ≠ b14 := Nat.ne_of_lt (Nat.lt_of_lt_of_le P9.lt (Nat.le_of_eq g14.symm))
    have ge16 : n0 ≤ b14 := Nat.le_trans Z12 (Nat.le_of_eq g14.symm)
    have gz17 : h0.size ≤ b14 := Nat.le_trans Y13 (Nat.le_of_eq g14.symm)
    refine Gl.via st14 ?_
    have Z18 : n0 ≤ h14.size := Nat.le_trans Z12 E14.1
    have Y19 : h0.size ≤ h14.size := Nat.le_trans Y13 E14.1
    have F20 : Fld Z h14 b14 "com/example/sortie/sortie/solver/Cost" "value" "D" (.double (0 : UInt64)) := D14 (Or.inr (hw _ (List.mem_of_getElem? (i := 17) rfl))) (ty := .double) (by decide)
    have F21 : Fld Z h14 b14 "com/example/sortie/sortie/solver/Cost" "tieBreak" "D" (.double (0 : UInt64)) := D14 (Or.inr (hw _ (List.mem_of_getElem? (i := 19) rfl))) (ty := .double) (by decide)
    show Gl p.tables e below T14 (mkF m 117 #[.val (.int p0), .val (.int p1), .val (.int p2), .val (.int p3), .val (.int p4), .val (.int p5), .val (.int (0 : Int32)), .val (.double FP.dconst1), .second, .val (.long (0 : Int64)), .second, .val (.long vb), .second, .val (.long va), .second, .val (.long vu), .second, .val (.long vt), .second, .val (.long vc), .second, .val (.ref b1), .unset, .unset, .unset] [(.ref b14)]) G
    refine Gl.via (fun _ k => XS.dup X14.here hx rfl (hb hby at_117) rfl rfl k) ?_
    show Gl p.tables e below T14 (mkF m 118 #[.val (.int p0), .val (.int p1), .val (.int p2), .val (.int p3), .val (.int p4), .val (.int p5), .val (.int (0 : Int32)), .val (.double FP.dconst1), .second, .val (.long (0 : Int64)), .second, .val (.long vb), .second, .val (.long va), .second, .val (.long vu), .second, .val (.long vt), .second, .val (.long vc), .second, .val (.ref b1), .unset, .unset, .unset] [(.ref b14), (.ref b14)]) G
    refine Gl.via (fun _ k => XS.lload X14.here hx rfl (hb hby at_118) rfl k) ?_
    show Gl p.tables e below T14 (mkF m 120 #[.val (.int p0), .val (.int p1), .val (.int p2), .val (.int p3), .val (.int p4), .val (.int p5), .val (.int (0 : Int32)), .val (.double FP.dconst1), .second, .val (.long (0 : Int64)), .second, .val (.long vb), .second, .val (.long va), .second, .val (.long vu), .second, .val (.long vt), .second, .val (.long vc), .second, .val (.ref b1), .unset, .unset, .unset] [(.long vb), (.ref b14), (.ref b14)]) G
    refine Gl.via (fun _ k => XS.l2dS X14.here hx rfl (hb hby at_120) rfl rfl k) ?_
    show Gl p.tables e below T14 (mkF m 121 #[.val (.int p0), .val (.int p1), .val (.int p2), .val (.int p3), .val (.int p4), .val (.int p5), .val (.int (0 : Int32)), .val (.double FP.dconst1), .second, .val (.long (0 : Int64)), .second, .val (.long vb), .second, .val (.long va), .second, .val (.long vu), .second, .val (.long vt), .second, .val (.long vc), .second, .val (.ref b1), .unset, .unset, .unset] [(.double (FP.l2d vb)), (.ref b14), (.ref b14)]) G
    refine Gl.via (fun _ k => XS.dload X14.here hx rfl (hb hby at_121) rfl k) ?_
    show Gl p.tables e below T14 (mkF m 123 #[.val (.int p0), .val (.int p1), .val (.int p2), .val (.int p3), .val (.int p4), .val (.int p5), .val (.int (0 : Int32)), .val (.double FP.dconst1), .second, .val (.long (0 : Int64)), .second, .val (.long vb), .second, .val (.long va), .second, .val (.long vu), .second, .val (.long vt), .second, .val (.long vc), .second, .val (.ref b1), .unset, .unset, .unset] [(.double FP.dconst1), (.double (FP.l2d vb)), (.ref b14), (.ref b14)]) G
    refine Gl.via (fun _ k => XS.dmulS X14.here hx rfl (hb hby at_123) rfl (dmul_out (l2d_fin _) own_one_fin) rfl k) ?_
    show Gl p.tables e below T14 (mkF m 124 #[.val (.int p0), .val (.int p1), .val (.int p2), .val (.int p3), .val (.int p4), .val (.int p5), .val (.int (0 : Int32)), .val (.double FP.dconst1), .second, .val (.long (0 : Int64)), .second, .val (.long vb), .second, .val (.long va), .second, .val (.long vu), .second, .val (.long vt), .second, .val (.long vc), .second, .val (.ref b1), .unset, .unset, .unset] [(.double (FP.dmul (FP.l2d vb) FP.dconst1)), (.ref b14), (.ref b14)]) G
    refine Gl.via (fun _ k => XS.lload X14.here hx rfl (hb hby at_124) rfl k) ?_
    show Gl p.tables e below T14 (mkF m 126 #[.val (.int p0), .val (.int p1), .val (.int p2), .val (.int p3), .val (.int p4), .val (.int p5), .val (.int (0 : Int32)), .val (.double FP.dconst1), .second, .val (.long (0 : Int64)), .second, .val (.long vb), .second, .val (.long va), .second, .val (.long vu), .second, .val (.long vt), .second, .val (.long vc), .second, .val (.ref b1), .unset, .unset, .unset] [(.long vu), (.double (FP.dmul (FP.l2d vb) FP.dconst1)), (.ref b14), (.ref b14)]) G
    refine Gl.via (fun _ k => XS.l2dS X14.here hx rfl (hb hby at_126) rfl rfl k) ?_
    show Gl p.tables e below T14 (mkF m 127 #[.val (.int p0), .val (.int p1), .val (.int p2), .val (.int p3), .val (.int p4), .val (.int p5), .val (.int (0 : Int32)), .val (.double FP.dconst1), .second, .val (.long (0 : Int64)), .second, .val (.long vb), .second, .val (.long va), .second, .val (.long vu), .second, .val (.long vt), .second, .val (.long vc), .second, .val (.ref b1), .unset, .unset, .unset] [(.double (FP.l2d vu)), (.double (FP.dmul (FP.l2d vb) FP.dconst1)), (.ref b14), (.ref b14)]) G
    refine Gl.via (fun _ k => XS.dload X14.here hx rfl (hb hby at_127) rfl k) ?_
    show Gl p.tables e below T14 (mkF m 129 #[.val (.int p0), .val (.int p1), .val (.int p2), .val (.int p3), .val (.int p4), .val (.int p5), .val (.int (0 : Int32)), .val (.double FP.dconst1), .second, .val (.long (0 : Int64)), .second, .val (.long vb), .second, .val (.long va), .second, .val (.long vu), .second, .val (.long vt), .second, .val (.long vc), .second, .val (.ref b1), .unset, .unset, .unset] [(.double FP.dconst1), (.double (FP.l2d vu)), (.double (FP.dmul (FP.l2d vb) FP.dconst1)), (.ref b14), (.ref b14)]) G
    refine Gl.via (fun _ k => XS.dmulS X14.here hx rfl (hb hby at_129) rfl (dmul_out (l2d_fin _) own_one_fin) rfl k) ?_
    show Gl p.tables e below T14 (mkF m 130 #[.val (.int p0), .val (.int p1), .val (.int p2), .val (.int p3), .val (.int p4), .val (.int p5), .val (.int (0 : Int32)), .val (.double FP.dconst1), .second, .val (.long (0 : Int64)), .second, .val (.long vb), .second, .val (.long va), .second, .val (.long vu), .second, .val (.long vt), .second, .val (.long vc), .second, .val (.ref b1), .unset, .unset, .unset] [(.double (FP.dmul (FP.l2d vu) FP.dconst1)), (.double (FP.dmul (FP.l2d vb) FP.dconst1)), (.ref b14), (.ref b14)]) G
    obtain ⟨_, _, ⟨T22, L22, k22, n22⟩, -, X22, ⟨Lc22, hQ22, l22, y22, z22⟩, st22⟩ := X14.specialBack hx (y := (⟨"com/example/sortie/sortie/solver/Cost", "<init>", "(DD)V"⟩ : MethodName)) rfl hown (mvT hZ (hw _ (List.mem_of_getElem? (i := 5) rfl))) (mvT hZ (hw _ (List.mem_of_getElem? (i := 6) rfl))) (mvT hZ (hw _ (List.mem_of_getElem? (i := 7) rfl))) (by decide) (backOf (W := 1) (c_init l Z a0 hw [] b14 (FP.dmul (FP.l2d vb) FP.dconst1) (FP.dmul (FP.l2d vu) FP.dconst1) (.double (0 : UInt64)) (.double (0 : UInt64)) h14 n0 Z18 A14 F20 F21 ge16) hZ (hw _ (List.mem_of_getElem? (i := 7) rfl)) (hw _ (List.mem_of_getElem? (i := 4) rfl)) (by decide) (by decide)) (g := (mkF m 130 #[.val (.int p0), .val (.int p1), .val (.int p2), .val (.int p3), .val (.int p4), .val (.int p5), .val (.int (0 : Int32)), .val (.double FP.dconst1), .second, .val (.long (0 : Int64)), .second, .val (.long vb), .second, .val (.long va), .second, .val (.long vu), .second, .val (.long vt), .second, .val (.long vc), .second, .val (.ref b1), .unset, .unset, .unset] [(.double (FP.dmul (FP.l2d vu) FP.dconst1)), (.double (FP.dmul (FP.l2d vb) FP.dconst1)), (.ref b14), (.ref b14)])) rfl (by rw [hml]; rfl) (Steps.refl _) (a := b14) (argsL := [(.double (FP.dmul (FP.l2d vb) FP.dconst1)), (.double (FP.dmul (FP.l2d vu) FP.dconst1))]) (rest := [(.ref b14)]) (lenOf pd_1 rfl) rfl (by show 2 * 0 + _ ≤ _; exact Nat.le_of_eq rfl) (hb hby at_130) (fun _ _ => ⟨rfl, e14, (by decide : 2 + 0 ≤ _), (by decide : 4 + 0 ≤ _)⟩)
    dsimp only [Pt.U, Pt.locs, Pt.cells, Pt.slots] at X22 l22 y22 z22 st22 hQ22
    subst l22 y22 z22
    obtain ⟨rfl, N22q, K22, P23, P24, P25⟩ := hQ22
    have N22_ := Fr.app N8_ N22q
    refine Gl.via (fun _ k => st22.trans k) ?_
    have Z26 : n0 ≤ T22.heap.size := Nat.le_trans Z18 K22.1
    have Y27 : h0.size ≤ T22.heap.size := Nat.le_trans Y19 K22.1
    show Gl p.tables e below T22 (mkF m 133 #[.val (.int p0), .val (.int p1), .val (.int p2), .val (.int p3), .val (.int p4), .val (.int p5), .val (.int (0 : Int32)), .val (.double FP.dconst1), .second, .val (.long (0 : Int64)), .second, .val (.long vb), .second, .val (.long va), .second, .val (.long vu), .second, .val (.long vt), .second, .val (.long vc), .second, .val (.ref b1), .unset, .unset, .unset] [(.ref b14)]) G
    refine Gl.via (fun _ k => XS.astore X22.here hx rfl (hb hby at_133) rfl rfl (l' := #[.val (.int p0), .val (.int p1), .val (.int p2), .val (.int p3), .val (.int p4), .val (.int p5), .val (.int (0 : Int32)), .val (.double FP.dconst1), .second, .val (.long (0 : Int64)), .second, .val (.long vb), .second, .val (.long va), .second, .val (.long vu), .second, .val (.long vt), .second, .val (.long vc), .second, .val (.ref b1), .val (.ref b14), .unset, .unset]) rfl k) ?_
    show Gl p.tables e below T22 (mkF m 135 #[.val (.int p0), .val (.int p1), .val (.int p2), .val (.int p3), .val (.int p4), .val (.int p5), .val (.int (0 : Int32)), .val (.double FP.dconst1), .second, .val (.long (0 : Int64)), .second, .val (.long vb), .second, .val (.long va), .second, .val (.long vu), .second, .val (.long vt), .second, .val (.long vc), .second, .val (.ref b1), .val (.ref b14), .unset, .unset] []) G
    refine Gl.via (fun _ k => XS.aload X22.here hx rfl (hb hby at_135) rfl rfl k) ?_
    show Gl p.tables e below T22 (mkF m 137 #[.val (.int p0), .val (.int p1), .val (.int p2), .val (.int p3), .val (.int p4), .val (.int p5), .val (.int (0 : Int32)), .val (.double FP.dconst1), .second, .val (.long (0 : Int64)), .second, .val (.long vb), .second, .val (.long va), .second, .val (.long vu), .second, .val (.long vt), .second, .val (.long vc), .second, .val (.ref b1), .val (.ref b14), .unset, .unset] [(.ref b1)]) G
    refine Gl.via (fun _ k => XS.aload X22.here hx rfl (hb hby at_137) rfl rfl k) ?_
    show Gl p.tables e below T22 (mkF m 139 #[.val (.int p0), .val (.int p1), .val (.int p2), .val (.int p3), .val (.int p4), .val (.int p5), .val (.int (0 : Int32)), .val (.double FP.dconst1), .second, .val (.long (0 : Int64)), .second, .val (.long vb), .second, .val (.long va), .second, .val (.long vu), .second, .val (.long vt), .second, .val (.long vc), .second, .val (.ref b1), .val (.ref b14), .unset, .unset] [(.ref b14), (.ref b1)]) G
    refine Gl.via (fun _ k => XS.lload X22.here hx rfl (hb hby at_139) rfl k) ?_
    show Gl p.tables e below T22 (mkF m 141 #[.val (.int p0), .val (.int p1), .val (.int p2), .val (.int p3), .val (.int p4), .val (.int p5), .val (.int (0 : Int32)), .val (.double FP.dconst1), .second, .val (.long (0 : Int64)), .second, .val (.long vb), .second, .val (.long va), .second, .val (.long vu), .second, .val (.long vt), .second, .val (.long vc), .second, .val (.ref b1), .val (.ref b14), .unset, .unset] [(.long vc), (.ref b14), (.ref b1)]) G
    refine Gl.via (fun _ k => XS.l2dS X22.here hx rfl (hb hby at_141) rfl rfl k) ?_
    show Gl p.tables e below T22 (mkF m 142 #[.val (.int p0), .val (.int p1), .val (.int p2), .val (.int p3), .val (.int p4), .val (.int p5), .val (.int (0 : Int32)), .val (.double FP.dconst1), .second, .val (.long (0 : Int64)), .second, .val (.long vb), .second, .val (.long va), .second, .val (.long vu), .second, .val (.long vt), .second, .val (.long vc), .second, .val (.ref b1), .val (.ref b14), .unset, .unset] [(.double (FP.l2d vc)), (.ref b14), (.ref b1)]) G
    refine Gl.via (fun _ k => XS.dload X22.here hx rfl (hb hby at_142) rfl k) ?_
    show Gl p.tables e below T22 (mkF m 144 #[.val (.int p0), .val (.int p1), .val (.int p2), .val (.int p3), .val (.int p4), .val (.int p5), .val (.int (0 : Int32)), .val (.double FP.dconst1), .second, .val (.long (0 : Int64)), .second, .val (.long vb), .second, .val (.long va), .second, .val (.long vu), .second, .val (.long vt), .second, .val (.long vc), .second, .val (.ref b1), .val (.ref b14), .unset, .unset] [(.double FP.dconst1), (.double (FP.l2d vc)), (.ref b14), (.ref b1)]) G
    refine Gl.via (fun _ k => XS.dmulS X22.here hx rfl (hb hby at_144) rfl (dmul_out (l2d_fin _) own_one_fin) rfl k) ?_
    show Gl p.tables e below T22 (mkF m 145 #[.val (.int p0), .val (.int p1), .val (.int p2), .val (.int p3), .val (.int p4), .val (.int p5), .val (.int (0 : Int32)), .val (.double FP.dconst1), .second, .val (.long (0 : Int64)), .second, .val (.long vb), .second, .val (.long va), .second, .val (.long vu), .second, .val (.long vt), .second, .val (.long vc), .second, .val (.ref b1), .val (.ref b14), .unset, .unset] [(.double (FP.dmul (FP.l2d vc) FP.dconst1)), (.ref b14), (.ref b1)]) G
    have dA := own_coarse (Nat.le_of_lt hA.n)
    have dB := own_coarse (Nat.le_of_lt hB.n)
    have dTA := own_coarse (Nat.le_of_lt hTA.n)
    have dTB := own_coarse (Nat.le_of_lt hTB.n)
    have dC := own_coarse (Nat.le_of_lt hC.n)
    have s1 := own_sub dB dC (own_sn hB hC) (by decide)
    have s3 := own_sub dTB dC (own_sn hTB hC) (by decide)
    have k2 := own_eps (e := 1073) (t := 0) dA dB own_w_fin rfl own_w_c1 own_w_c2 (own_en hB (by decide)) (by decide)
    have k1 := own_lt dA s1 .g
    have k3 := own_lt dTA s3 .g
    have m1 := val64_no.mpr s1.nn
    have m3 := val64_no.mpr s3.nn
    by_cases e1 : va.toInt < vb.toInt - vc.toInt
    · have G29 : Fld Z T22.heap b1 "com/example/sortie/sortie/solver/Cost" "value" "D" (.double (FP.dmul (FP.l2d va) FP.dconst1)) := ((P10.ext E14).keep K22 (ninS ne15 nin0))
      have G30 : Fld Z T22.heap b1 "com/example/sortie/sortie/solver/Cost" "tieBreak" "D" (.double (FP.dmul (FP.l2d vt) FP.dconst1)) := ((P11.ext E14).keep K22 (ninS ne15 nin0))
      have G31 : Exa Z T22.heap b1 "com/example/sortie/sortie/solver/Cost" := ((P9.ext E14).keep K22)
      obtain ⟨cq28, kq28, q28a, q28b, q28c⟩ := isOf hZ rfl G31
      obtain ⟨_, _, ⟨T28, L28, k28, n28⟩, -, X28, ⟨Lc28, hQ28, l28, y28, z28⟩, st28⟩ := X22.virtualBack hx (y := (⟨"com/example/sortie/sortie/solver/Cost", "below", "(Lcom/example/sortie/sortie/solver/Cost;D)Z"⟩ : MethodName)) (z := (⟨"com/example/sortie/sortie/solver/Cost", "below", "(Lcom/example/sortie/sortie/solver/Cost;D)Z"⟩ : MethodName)) hown (mvT hZ (hw _ (List.mem_of_getElem? (i := 20) rfl))) (mvT hZ (hw _ (List.mem_of_getElem? (i := 21) rfl))) (notFace_of_selects (args := #[]) (mvT hZ (hw _ (List.mem_of_getElem? (i := 23) rfl)))) (mvT hZ (hw _ (List.mem_of_getElem? (i := 23) rfl))) (mvT hZ (hw _ (List.mem_of_getElem? (i := 22) rfl))) (by decide) (backOf (W := 0) (b1a l Z a0 hw [] b1 b14 (FP.dmul (FP.l2d vc) FP.dconst1) (FP.dmul (FP.l2d va) FP.dconst1) (FP.dmul (FP.l2d vb) FP.dconst1) (FP.dmul (FP.l2d vt) FP.dconst1) (FP.dmul (FP.l2d vu) FP.dconst1) T22.heap n0 Z26 G29 P24 G30 P25 m1 (k1.mpr e1)) hZ (hw _ (List.mem_of_getElem? (i := 24) rfl)) (hw _ (List.mem_of_getElem? (i := 4) rfl)) (by decide) (by decide)) q28a q28c (g := (mkF m 145 #[.val (.int p0), .val (.int p1), .val (.int p2), .val (.int p3), .val (.int p4), .val (.int p5), .val (.int (0 : Int32)), .val (.double FP.dconst1), .second, .val (.long (0 : Int64)), .second, .val (.long vb), .second, .val (.long va), .second, .val (.long vu), .second, .val (.long vt), .second, .val (.long vc), .second, .val (.ref b1), .val (.ref b14), .unset, .unset] [(.double (FP.dmul (FP.l2d vc) FP.dconst1)), (.ref b14), (.ref b1)])) rfl (by rw [hml]; rfl) (Steps.refl _) (argsL := [(.ref b14), (.double (FP.dmul (FP.l2d vc) FP.dconst1))]) (rest := []) (lenOf pd_2 rfl) rfl (by show 2 * 0 + _ ≤ _; exact Nat.le_of_eq rfl) (hb hby at_145) (fun _ _ => ⟨rfl, rfl, (by decide : 2 + 0 ≤ _), (by decide : 4 + 0 ≤ _)⟩)
      dsimp only [Pt.U, Pt.locs, Pt.cells, Pt.slots] at X28 l28 y28 z28 st28 hQ28
      subst l28 y28 z28
      obtain ⟨rfl, N28q, eh28⟩ := hQ28
      have N28_ := Fr.app N22_ N28q
      refine Gl.via (fun _ k => st28.trans k) ?_
      show Gl p.tables e below T28 (mkF m 148 #[.val (.int p0), .val (.int p1), .val (.int p2), .val (.int p3), .val (.int p4), .val (.int p5), .val (.int (0 : Int32)), .val (.double FP.dconst1), .second, .val (.long (0 : Int64)), .second, .val (.long vb), .second, .val (.long va), .second, .val (.long vu), .second, .val (.long vt), .second, .val (.long vc), .second, .val (.ref b1), .val (.ref b14), .unset, .unset] [(.int (1 : Int32))]) G
      refine Gl.via (fun _ k => XS.istore X28.here hx rfl (hb hby at_148) rfl (l' := #[.val (.int p0), .val (.int p1), .val (.int p2), .val (.int p3), .val (.int p4), .val (.int p5), .val (.int (0 : Int32)), .val (.double FP.dconst1), .second, .val (.long (0 : Int64)), .second, .val (.long vb), .second, .val (.long va), .second, .val (.long vu), .second, .val (.long vt), .second, .val (.long vc), .second, .val (.ref b1), .val (.ref b14), .val (.int (1 : Int32)), .unset]) rfl k) ?_
      show Gl p.tables e below T28 (mkF m 150 #[.val (.int p0), .val (.int p1), .val (.int p2), .val (.int p3), .val (.int p4), .val (.int p5), .val (.int (0 : Int32)), .val (.double FP.dconst1), .second, .val (.long (0 : Int64)), .second, .val (.long vb), .second, .val (.long va), .second, .val (.long vu), .second, .val (.long vt), .second, .val (.long vc), .second, .val (.ref b1), .val (.ref b14), .val (.int (1 : Int32)), .unset] []) G
      refine Gl.via (fun _ k => XS.lload X28.here hx rfl (hb hby at_150) rfl k) ?_
      show Gl p.tables e below T28 (mkF m 152 #[.val (.int p0), .val (.int p1), .val (.int p2), .val (.int p3), .val (.int p4), .val (.int p5), .val (.int (0 : Int32)), .val (.double FP.dconst1), .second, .val (.long (0 : Int64)), .second, .val (.long vb), .second, .val (.long va), .second, .val (.long vu), .second, .val (.long vt), .second, .val (.long vc), .second, .val (.ref b1), .val (.ref b14), .val (.int (1 : Int32)), .unset] [(.long va)]) G
      refine Gl.via (fun _ k => XS.lload X28.here hx rfl (hb hby at_152) rfl k) ?_
      show Gl p.tables e below T28 (mkF m 154 #[.val (.int p0), .val (.int p1), .val (.int p2), .val (.int p3), .val (.int p4), .val (.int p5), .val (.int (0 : Int32)), .val (.double FP.dconst1), .second, .val (.long (0 : Int64)), .second, .val (.long vb), .second, .val (.long va), .second, .val (.long vu), .second, .val (.long vt), .second, .val (.long vc), .second, .val (.ref b1), .val (.ref b14), .val (.int (1 : Int32)), .unset] [(.long vb), (.long va)]) G
      refine Gl.via (fun _ k => XS.lload X28.here hx rfl (hb hby at_154) rfl k) ?_
      show Gl p.tables e below T28 (mkF m 156 #[.val (.int p0), .val (.int p1), .val (.int p2), .val (.int p3), .val (.int p4), .val (.int p5), .val (.int (0 : Int32)), .val (.double FP.dconst1), .second, .val (.long (0 : Int64)), .second, .val (.long vb), .second, .val (.long va), .second, .val (.long vu), .second, .val (.long vt), .second, .val (.long vc), .second, .val (.ref b1), .val (.ref b14), .val (.int (1 : Int32)), .unset] [(.long vc), (.long vb), (.long va)]) G
      refine Gl.via (fun _ k => XS.lsub X28.here hx rfl (hb hby at_156) rfl k) ?_
      show Gl p.tables e below T28 (mkF m 157 #[.val (.int p0), .val (.int p1), .val (.int p2), .val (.int p3), .val (.int p4), .val (.int p5), .val (.int (0 : Int32)), .val (.double FP.dconst1), .second, .val (.long (0 : Int64)), .second, .val (.long vb), .second, .val (.long va), .second, .val (.long vu), .second, .val (.long vt), .second, .val (.long vc), .second, .val (.ref b1), .val (.ref b14), .val (.int (1 : Int32)), .unset] [(.long (vb - vc)), (.long va)]) G
      refine Gl.via (fun _ k => XS.lcmp X28.here hx rfl (hb hby at_157) rfl k) ?_
      show Gl p.tables e below T28 (mkF m 158 #[.val (.int p0), .val (.int p1), .val (.int p2), .val (.int p3), .val (.int p4), .val (.int p5), .val (.int (0 : Int32)), .val (.double FP.dconst1), .second, .val (.long (0 : Int64)), .second, .val (.long vb), .second, .val (.long va), .second, .val (.long vu), .second, .val (.long vt), .second, .val (.long vc), .second, .val (.ref b1), .val (.ref b14), .val (.int (1 : Int32)), .unset] [(.int (lcmpW va (vb - vc)))]) G
      refine Gl.via (fun _ k => XS.ifYes X28.here hx rfl (pc0 := 158) (pc' := 183) rfl (hb hby at_158) rfl ((if0 _ _).trans (tlt ((own_ls hB hC).mpr e1)).1) (by decide) (by decide) k) ?_
      show Gl p.tables e below T28 (mkF m 183 #[.val (.int p0), .val (.int p1), .val (.int p2), .val (.int p3), .val (.int p4), .val (.int p5), .val (.int (0 : Int32)), .val (.double FP.dconst1), .second, .val (.long (0 : Int64)), .second, .val (.long vb), .second, .val (.long va), .second, .val (.long vu), .second, .val (.long vt), .second, .val (.long vc), .second, .val (.ref b1), .val (.ref b14), .val (.int (1 : Int32)), .unset] []) G
      refine Gl.via (fun _ k => XS.iconst X28.here hx rfl (hb hby at_183) k) ?_
      show Gl p.tables e below T28 (mkF m 184 #[.val (.int p0), .val (.int p1), .val (.int p2), .val (.int p3), .val (.int p4), .val (.int p5), .val (.int (0 : Int32)), .val (.double FP.dconst1), .second, .val (.long (0 : Int64)), .second, .val (.long vb), .second, .val (.long va), .second, .val (.long vu), .second, .val (.long vt), .second, .val (.long vc), .second, .val (.ref b1), .val (.ref b14), .val (.int (1 : Int32)), .unset] [(.int (1 : Int32))]) G
      refine Gl.via (fun _ k => XS.goto X28.here hx rfl (pc0 := 184) (pc' := 188) rfl (hb hby at_184) (by decide) (by decide) k) ?_
      show Gl p.tables e below T28 (mkF m 188 #[.val (.int p0), .val (.int p1), .val (.int p2), .val (.int p3), .val (.int p4), .val (.int p5), .val (.int (0 : Int32)), .val (.double FP.dconst1), .second, .val (.long (0 : Int64)), .second, .val (.long vb), .second, .val (.long va), .second, .val (.long vu), .second, .val (.long vt), .second, .val (.long vc), .second, .val (.ref b1), .val (.ref b14), .val (.int (1 : Int32)), .unset] [(.int (1 : Int32))]) G
      refine Gl.via (fun _ k => XS.istore X28.here hx rfl (hb hby at_188) rfl (l' := #[.val (.int p0), .val (.int p1), .val (.int p2), .val (.int p3), .val (.int p4), .val (.int p5), .val (.int (0 : Int32)), .val (.double FP.dconst1), .second, .val (.long (0 : Int64)), .second, .val (.long vb), .second, .val (.long va), .second, .val (.long vu), .second, .val (.long vt), .second, .val (.long vc), .second, .val (.ref b1), .val (.ref b14), .val (.int (1 : Int32)), .val (.int (1 : Int32))]) rfl k) ?_
      show Gl p.tables e below T28 (mkF m 190 #[.val (.int p0), .val (.int p1), .val (.int p2), .val (.int p3), .val (.int p4), .val (.int p5), .val (.int (0 : Int32)), .val (.double FP.dconst1), .second, .val (.long (0 : Int64)), .second, .val (.long vb), .second, .val (.long va), .second, .val (.long vu), .second, .val (.long vt), .second, .val (.long vc), .second, .val (.ref b1), .val (.ref b14), .val (.int (1 : Int32)), .val (.int (1 : Int32))] []) G
      refine Gl.via (fun _ k => XS.iload X28.here hx rfl (hb hby at_190) rfl k) ?_
      show Gl p.tables e below T28 (mkF m 192 #[.val (.int p0), .val (.int p1), .val (.int p2), .val (.int p3), .val (.int p4), .val (.int p5), .val (.int (0 : Int32)), .val (.double FP.dconst1), .second, .val (.long (0 : Int64)), .second, .val (.long vb), .second, .val (.long va), .second, .val (.long vu), .second, .val (.long vt), .second, .val (.long vc), .second, .val (.ref b1), .val (.ref b14), .val (.int (1 : Int32)), .val (.int (1 : Int32))] [(.int (1 : Int32))]) G
      refine Gl.via (fun _ k => XS.iload X28.here hx rfl (hb hby at_192) rfl k) ?_
      show Gl p.tables e below T28 (mkF m 194 #[.val (.int p0), .val (.int p1), .val (.int p2), .val (.int p3), .val (.int p4), .val (.int p5), .val (.int (0 : Int32)), .val (.double FP.dconst1), .second, .val (.long (0 : Int64)), .second, .val (.long vb), .second, .val (.long va), .second, .val (.long vu), .second, .val (.long vt), .second, .val (.long vc), .second, .val (.ref b1), .val (.ref b14), .val (.int (1 : Int32)), .val (.int (1 : Int32))] [(.int (1 : Int32)), (.int (1 : Int32))]) G
      refine Gl.via (fun _ k => XS.icmpNo X28.here hx rfl (hb hby at_194) rfl (teq (by decide)).2 k) ?_
      show Gl p.tables e below T28 (mkF m 197 #[.val (.int p0), .val (.int p1), .val (.int p2), .val (.int p3), .val (.int p4), .val (.int p5), .val (.int (0 : Int32)), .val (.double FP.dconst1), .second, .val (.long (0 : Int64)), .second, .val (.long vb), .second, .val (.long va), .second, .val (.long vu), .second, .val (.long vt), .second, .val (.long vc), .second, .val (.ref b1), .val (.ref b14), .val (.int (1 : Int32)), .val (.int (1 : Int32))] []) G
      refine Gl.via (fun _ k => XS.iconst X28.here hx rfl (hb hby at_197) k) ?_
      show Gl p.tables e below T28 (mkF m 198 #[.val (.int p0), .val (.int p1), .val (.int p2), .val (.int p3), .val (.int p4), .val (.int p5), .val (.int (0 : Int32)), .val (.double FP.dconst1), .second, .val (.long (0 : Int64)), .second, .val (.long vb), .second, .val (.long va), .second, .val (.long vu), .second, .val (.long vt), .second, .val (.long vc), .second, .val (.ref b1), .val (.ref b14), .val (.int (1 : Int32)), .val (.int (1 : Int32))] [(.int (1 : Int32))]) G
      refine Gl.via (fun _ k => XS.goto X28.here hx rfl (pc0 := 198) (pc' := 202) rfl (hb hby at_198) (by decide) (by decide) k) ?_
      show Gl p.tables e below T28 (mkF m 202 #[.val (.int p0), .val (.int p1), .val (.int p2), .val (.int p3), .val (.int p4), .val (.int p5), .val (.int (0 : Int32)), .val (.double FP.dconst1), .second, .val (.long (0 : Int64)), .second, .val (.long vb), .second, .val (.long va), .second, .val (.long vu), .second, .val (.long vt), .second, .val (.long vc), .second, .val (.ref b1), .val (.ref b14), .val (.int (1 : Int32)), .val (.int (1 : Int32))] [(.int (1 : Int32))]) G
      obtain ⟨fs, hr, hrun, hended, hW, hsame⟩ := X28.leave (v := some (.int (1 : Int32))) (fun h => by rw [Bd.returns] at h; cases h)
      have hq : ∀ L, Fr n0 L → Q_rm0 Z p0 p1 p2 p3 p4 p5 h0 n0 (some (.int (1 : Int32))) T28.heap L := by
        intro L hN
        rw [eh28]
        exact ⟨rfl, hN⟩
      rw [hG]
      exact Gl.fin (retN X28 hx (t := .boolean) Bd.returns (by simp) (hb hby at_202) hr) ⟨_, hrun, hended, _, _, rfl, hq _ N28_, ⟨_, rfl⟩, hW, hsame.mono (by decide) (by decide)⟩
    · by_cases e2 : vb.toInt + 0 < va.toInt
      · have G33 : Fld Z T22.heap b1 "com/example/sortie/sortie/solver/Cost" "value" "D" (.double (FP.dmul (FP.l2d va) FP.dconst1)) := ((P10.ext E14).keep K22 (ninS ne15 nin0))
        have G34 : Fld Z T22.heap b1 "com/example/sortie/sortie/solver/Cost" "tieBreak" "D" (.double (FP.dmul (FP.l2d vt) FP.dconst1)) := ((P11.ext E14).keep K22 (ninS ne15 nin0))
        have G35 : Exa Z T22.heap b1 "com/example/sortie/sortie/solver/Cost" := ((P9.ext E14).keep K22)
        obtain ⟨cq32, kq32, q32a, q32b, q32c⟩ := isOf hZ rfl G35
        obtain ⟨_, _, ⟨T32, L32, k32, n32⟩, -, X32, ⟨Lc32, hQ32, l32, y32, z32⟩, st32⟩ := X22.virtualBack hx (y := (⟨"com/example/sortie/sortie/solver/Cost", "below", "(Lcom/example/sortie/sortie/solver/Cost;D)Z"⟩ : MethodName)) (z := (⟨"com/example/sortie/sortie/solver/Cost", "below", "(Lcom/example/sortie/sortie/solver/Cost;D)Z"⟩ : MethodName)) hown (mvT hZ (hw _ (List.mem_of_getElem? (i := 20) rfl))) (mvT hZ (hw _ (List.mem_of_getElem? (i := 21) rfl))) (notFace_of_selects (args := #[]) (mvT hZ (hw _ (List.mem_of_getElem? (i := 23) rfl)))) (mvT hZ (hw _ (List.mem_of_getElem? (i := 23) rfl))) (mvT hZ (hw _ (List.mem_of_getElem? (i := 22) rfl))) (by decide) (backOf (W := 0) (b0a l Z a0 hw [] b1 b14 (FP.dmul (FP.l2d vc) FP.dconst1) (FP.dmul (FP.l2d va) FP.dconst1) (FP.dmul (FP.l2d vb) FP.dconst1) (FP.dmul (FP.l2d vt) FP.dconst1) (FP.dmul (FP.l2d vu) FP.dconst1) T22.heap n0 Z26 G33 P24 G34 P25 m1 k2.1 (fun q => e1 (k1.mp q)) (k2.2.mpr e2)) hZ (hw _ (List.mem_of_getElem? (i := 24) rfl)) (hw _ (List.mem_of_getElem? (i := 4) rfl)) (by decide) (by decide)) q32a q32c (g := (mkF m 145 #[.val (.int p0), .val (.int p1), .val (.int p2), .val (.int p3), .val (.int p4), .val (.int p5), .val (.int (0 : Int32)), .val (.double FP.dconst1), .second, .val (.long (0 : Int64)), .second, .val (.long vb), .second, .val (.long va), .second, .val (.long vu), .second, .val (.long vt), .second, .val (.long vc), .second, .val (.ref b1), .val (.ref b14), .unset, .unset] [(.double (FP.dmul (FP.l2d vc) FP.dconst1)), (.ref b14), (.ref b1)])) rfl (by rw [hml]; rfl) (Steps.refl _) (argsL := [(.ref b14), (.double (FP.dmul (FP.l2d vc) FP.dconst1))]) (rest := []) (lenOf pd_2 rfl) rfl (by show 2 * 0 + _ ≤ _; exact Nat.le_of_eq rfl) (hb hby at_145) (fun _ _ => ⟨rfl, rfl, (by decide : 2 + 0 ≤ _), (by decide : 4 + 0 ≤ _)⟩)
        dsimp only [Pt.U, Pt.locs, Pt.cells, Pt.slots] at X32 l32 y32 z32 st32 hQ32
        subst l32 y32 z32
        obtain ⟨rfl, N32q, eh32⟩ := hQ32
        have N32_ := Fr.app N22_ N32q
        refine Gl.via (fun _ k => st32.trans k) ?_
        show Gl p.tables e below T32 (mkF m 148 #[.val (.int p0), .val (.int p1), .val (.int p2), .val (.int p3), .val (.int p4), .val (.int p5), .val (.int (0 : Int32)), .val (.double FP.dconst1), .second, .val (.long (0 : Int64)), .second, .val (.long vb), .second, .val (.long va), .second, .val (.long vu), .second, .val (.long vt), .second, .val (.long vc), .second, .val (.ref b1), .val (.ref b14), .unset, .unset] [(.int (0 : Int32))]) G
        refine Gl.via (fun _ k => XS.istore X32.here hx rfl (hb hby at_148) rfl (l' := #[.val (.int p0), .val (.int p1), .val (.int p2), .val (.int p3), .val (.int p4), .val (.int p5), .val (.int (0 : Int32)), .val (.double FP.dconst1), .second, .val (.long (0 : Int64)), .second, .val (.long vb), .second, .val (.long va), .second, .val (.long vu), .second, .val (.long vt), .second, .val (.long vc), .second, .val (.ref b1), .val (.ref b14), .val (.int (0 : Int32)), .unset]) rfl k) ?_
        show Gl p.tables e below T32 (mkF m 150 #[.val (.int p0), .val (.int p1), .val (.int p2), .val (.int p3), .val (.int p4), .val (.int p5), .val (.int (0 : Int32)), .val (.double FP.dconst1), .second, .val (.long (0 : Int64)), .second, .val (.long vb), .second, .val (.long va), .second, .val (.long vu), .second, .val (.long vt), .second, .val (.long vc), .second, .val (.ref b1), .val (.ref b14), .val (.int (0 : Int32)), .unset] []) G
        refine Gl.via (fun _ k => XS.lload X32.here hx rfl (hb hby at_150) rfl k) ?_
        show Gl p.tables e below T32 (mkF m 152 #[.val (.int p0), .val (.int p1), .val (.int p2), .val (.int p3), .val (.int p4), .val (.int p5), .val (.int (0 : Int32)), .val (.double FP.dconst1), .second, .val (.long (0 : Int64)), .second, .val (.long vb), .second, .val (.long va), .second, .val (.long vu), .second, .val (.long vt), .second, .val (.long vc), .second, .val (.ref b1), .val (.ref b14), .val (.int (0 : Int32)), .unset] [(.long va)]) G
        refine Gl.via (fun _ k => XS.lload X32.here hx rfl (hb hby at_152) rfl k) ?_
        show Gl p.tables e below T32 (mkF m 154 #[.val (.int p0), .val (.int p1), .val (.int p2), .val (.int p3), .val (.int p4), .val (.int p5), .val (.int (0 : Int32)), .val (.double FP.dconst1), .second, .val (.long (0 : Int64)), .second, .val (.long vb), .second, .val (.long va), .second, .val (.long vu), .second, .val (.long vt), .second, .val (.long vc), .second, .val (.ref b1), .val (.ref b14), .val (.int (0 : Int32)), .unset] [(.long vb), (.long va)]) G
        refine Gl.via (fun _ k => XS.lload X32.here hx rfl (hb hby at_154) rfl k) ?_
        show Gl p.tables e below T32 (mkF m 156 #[.val (.int p0), .val (.int p1), .val (.int p2), .val (.int p3), .val (.int p4), .val (.int p5), .val (.int (0 : Int32)), .val (.double FP.dconst1), .second, .val (.long (0 : Int64)), .second, .val (.long vb), .second, .val (.long va), .second, .val (.long vu), .second, .val (.long vt), .second, .val (.long vc), .second, .val (.ref b1), .val (.ref b14), .val (.int (0 : Int32)), .unset] [(.long vc), (.long vb), (.long va)]) G
        refine Gl.via (fun _ k => XS.lsub X32.here hx rfl (hb hby at_156) rfl k) ?_
        show Gl p.tables e below T32 (mkF m 157 #[.val (.int p0), .val (.int p1), .val (.int p2), .val (.int p3), .val (.int p4), .val (.int p5), .val (.int (0 : Int32)), .val (.double FP.dconst1), .second, .val (.long (0 : Int64)), .second, .val (.long vb), .second, .val (.long va), .second, .val (.long vu), .second, .val (.long vt), .second, .val (.long vc), .second, .val (.ref b1), .val (.ref b14), .val (.int (0 : Int32)), .unset] [(.long (vb - vc)), (.long va)]) G
        refine Gl.via (fun _ k => XS.lcmp X32.here hx rfl (hb hby at_157) rfl k) ?_
        show Gl p.tables e below T32 (mkF m 158 #[.val (.int p0), .val (.int p1), .val (.int p2), .val (.int p3), .val (.int p4), .val (.int p5), .val (.int (0 : Int32)), .val (.double FP.dconst1), .second, .val (.long (0 : Int64)), .second, .val (.long vb), .second, .val (.long va), .second, .val (.long vu), .second, .val (.long vt), .second, .val (.long vc), .second, .val (.ref b1), .val (.ref b14), .val (.int (0 : Int32)), .unset] [(.int (lcmpW va (vb - vc)))]) G
        refine Gl.via (fun _ k => XS.ifNo X32.here hx rfl (hb hby at_158) rfl ((if0 _ _).trans (flt (fun q => e1 ((own_ls hB hC).mp q))).1) k) ?_
        show Gl p.tables e below T32 (mkF m 161 #[.val (.int p0), .val (.int p1), .val (.int p2), .val (.int p3), .val (.int p4), .val (.int p5), .val (.int (0 : Int32)), .val (.double FP.dconst1), .second, .val (.long (0 : Int64)), .second, .val (.long vb), .second, .val (.long va), .second, .val (.long vu), .second, .val (.long vt), .second, .val (.long vc), .second, .val (.ref b1), .val (.ref b14), .val (.int (0 : Int32)), .unset] []) G
        refine Gl.via (fun _ k => XS.lload X32.here hx rfl (hb hby at_161) rfl k) ?_
        show Gl p.tables e below T32 (mkF m 163 #[.val (.int p0), .val (.int p1), .val (.int p2), .val (.int p3), .val (.int p4), .val (.int p5), .val (.int (0 : Int32)), .val (.double FP.dconst1), .second, .val (.long (0 : Int64)), .second, .val (.long vb), .second, .val (.long va), .second, .val (.long vu), .second, .val (.long vt), .second, .val (.long vc), .second, .val (.ref b1), .val (.ref b14), .val (.int (0 : Int32)), .unset] [(.long va)]) G
        refine Gl.via (fun _ k => XS.lload X32.here hx rfl (hb hby at_163) rfl k) ?_
        show Gl p.tables e below T32 (mkF m 165 #[.val (.int p0), .val (.int p1), .val (.int p2), .val (.int p3), .val (.int p4), .val (.int p5), .val (.int (0 : Int32)), .val (.double FP.dconst1), .second, .val (.long (0 : Int64)), .second, .val (.long vb), .second, .val (.long va), .second, .val (.long vu), .second, .val (.long vt), .second, .val (.long vc), .second, .val (.ref b1), .val (.ref b14), .val (.int (0 : Int32)), .unset] [(.long vb), (.long va)]) G
        refine Gl.via (fun _ k => XS.lload X32.here hx rfl (hb hby at_165) rfl k) ?_
        show Gl p.tables e below T32 (mkF m 167 #[.val (.int p0), .val (.int p1), .val (.int p2), .val (.int p3), .val (.int p4), .val (.int p5), .val (.int (0 : Int32)), .val (.double FP.dconst1), .second, .val (.long (0 : Int64)), .second, .val (.long vb), .second, .val (.long va), .second, .val (.long vu), .second, .val (.long vt), .second, .val (.long vc), .second, .val (.ref b1), .val (.ref b14), .val (.int (0 : Int32)), .unset] [(.long (0 : Int64)), (.long vb), (.long va)]) G
        refine Gl.via (fun _ k => XS.ladd X32.here hx rfl (hb hby at_167) rfl k) ?_
        show Gl p.tables e below T32 (mkF m 168 #[.val (.int p0), .val (.int p1), .val (.int p2), .val (.int p3), .val (.int p4), .val (.int p5), .val (.int (0 : Int32)), .val (.double FP.dconst1), .second, .val (.long (0 : Int64)), .second, .val (.long vb), .second, .val (.long va), .second, .val (.long vu), .second, .val (.long vt), .second, .val (.long vc), .second, .val (.ref b1), .val (.ref b14), .val (.int (0 : Int32)), .unset] [(.long (vb + (0 : Int64))), (.long va)]) G
        refine Gl.via (fun _ k => XS.lcmp X32.here hx rfl (hb hby at_168) rfl k) ?_
        show Gl p.tables e below T32 (mkF m 169 #[.val (.int p0), .val (.int p1), .val (.int p2), .val (.int p3), .val (.int p4), .val (.int p5), .val (.int (0 : Int32)), .val (.double FP.dconst1), .second, .val (.long (0 : Int64)), .second, .val (.long vb), .second, .val (.long va), .second, .val (.long vu), .second, .val (.long vt), .second, .val (.long vc), .second, .val (.ref b1), .val (.ref b14), .val (.int (0 : Int32)), .unset] [(.int (lcmpW va (vb + (0 : Int64))))]) G
        refine Gl.via (fun _ k => XS.ifYes X32.here hx rfl (pc0 := 169) (pc' := 187) rfl (hb hby at_169) rfl ((if0 _ _).trans (tlt ((own_la hB (by decide : (0 : Int64).toInt = 0) (by decide)).mpr e2)).2.2.1) (by decide) (by decide) k) ?_
        show Gl p.tables e below T32 (mkF m 187 #[.val (.int p0), .val (.int p1), .val (.int p2), .val (.int p3), .val (.int p4), .val (.int p5), .val (.int (0 : Int32)), .val (.double FP.dconst1), .second, .val (.long (0 : Int64)), .second, .val (.long vb), .second, .val (.long va), .second, .val (.long vu), .second, .val (.long vt), .second, .val (.long vc), .second, .val (.ref b1), .val (.ref b14), .val (.int (0 : Int32)), .unset] []) G
        refine Gl.via (fun _ k => XS.iconst X32.here hx rfl (hb hby at_187) k) ?_
        show Gl p.tables e below T32 (mkF m 188 #[.val (.int p0), .val (.int p1), .val (.int p2), .val (.int p3), .val (.int p4), .val (.int p5), .val (.int (0 : Int32)), .val (.double FP.dconst1), .second, .val (.long (0 : Int64)), .second, .val (.long vb), .second, .val (.long va), .second, .val (.long vu), .second, .val (.long vt), .second, .val (.long vc), .second, .val (.ref b1), .val (.ref b14), .val (.int (0 : Int32)), .unset] [(.int (0 : Int32))]) G
        refine Gl.via (fun _ k => XS.istore X32.here hx rfl (hb hby at_188) rfl (l' := #[.val (.int p0), .val (.int p1), .val (.int p2), .val (.int p3), .val (.int p4), .val (.int p5), .val (.int (0 : Int32)), .val (.double FP.dconst1), .second, .val (.long (0 : Int64)), .second, .val (.long vb), .second, .val (.long va), .second, .val (.long vu), .second, .val (.long vt), .second, .val (.long vc), .second, .val (.ref b1), .val (.ref b14), .val (.int (0 : Int32)), .val (.int (0 : Int32))]) rfl k) ?_
        show Gl p.tables e below T32 (mkF m 190 #[.val (.int p0), .val (.int p1), .val (.int p2), .val (.int p3), .val (.int p4), .val (.int p5), .val (.int (0 : Int32)), .val (.double FP.dconst1), .second, .val (.long (0 : Int64)), .second, .val (.long vb), .second, .val (.long va), .second, .val (.long vu), .second, .val (.long vt), .second, .val (.long vc), .second, .val (.ref b1), .val (.ref b14), .val (.int (0 : Int32)), .val (.int (0 : Int32))] []) G
        refine Gl.via (fun _ k => XS.iload X32.here hx rfl (hb hby at_190) rfl k) ?_
        show Gl p.tables e below T32 (mkF m 192 #[.val (.int p0), .val (.int p1), .val (.int p2), .val (.int p3), .val (.int p4), .val (.int p5), .val (.int (0 : Int32)), .val (.double FP.dconst1), .second, .val (.long (0 : Int64)), .second, .val (.long vb), .second, .val (.long va), .second, .val (.long vu), .second, .val (.long vt), .second, .val (.long vc), .second, .val (.ref b1), .val (.ref b14), .val (.int (0 : Int32)), .val (.int (0 : Int32))] [(.int (0 : Int32))]) G
        refine Gl.via (fun _ k => XS.iload X32.here hx rfl (hb hby at_192) rfl k) ?_
        show Gl p.tables e below T32 (mkF m 194 #[.val (.int p0), .val (.int p1), .val (.int p2), .val (.int p3), .val (.int p4), .val (.int p5), .val (.int (0 : Int32)), .val (.double FP.dconst1), .second, .val (.long (0 : Int64)), .second, .val (.long vb), .second, .val (.long va), .second, .val (.long vu), .second, .val (.long vt), .second, .val (.long vc), .second, .val (.ref b1), .val (.ref b14), .val (.int (0 : Int32)), .val (.int (0 : Int32))] [(.int (0 : Int32)), (.int (0 : Int32))]) G
        refine Gl.via (fun _ k => XS.icmpNo X32.here hx rfl (hb hby at_194) rfl (teq (by decide)).2 k) ?_
        show Gl p.tables e below T32 (mkF m 197 #[.val (.int p0), .val (.int p1), .val (.int p2), .val (.int p3), .val (.int p4), .val (.int p5), .val (.int (0 : Int32)), .val (.double FP.dconst1), .second, .val (.long (0 : Int64)), .second, .val (.long vb), .second, .val (.long va), .second, .val (.long vu), .second, .val (.long vt), .second, .val (.long vc), .second, .val (.ref b1), .val (.ref b14), .val (.int (0 : Int32)), .val (.int (0 : Int32))] []) G
        refine Gl.via (fun _ k => XS.iconst X32.here hx rfl (hb hby at_197) k) ?_
        show Gl p.tables e below T32 (mkF m 198 #[.val (.int p0), .val (.int p1), .val (.int p2), .val (.int p3), .val (.int p4), .val (.int p5), .val (.int (0 : Int32)), .val (.double FP.dconst1), .second, .val (.long (0 : Int64)), .second, .val (.long vb), .second, .val (.long va), .second, .val (.long vu), .second, .val (.long vt), .second, .val (.long vc), .second, .val (.ref b1), .val (.ref b14), .val (.int (0 : Int32)), .val (.int (0 : Int32))] [(.int (1 : Int32))]) G
        refine Gl.via (fun _ k => XS.goto X32.here hx rfl (pc0 := 198) (pc' := 202) rfl (hb hby at_198) (by decide) (by decide) k) ?_
        show Gl p.tables e below T32 (mkF m 202 #[.val (.int p0), .val (.int p1), .val (.int p2), .val (.int p3), .val (.int p4), .val (.int p5), .val (.int (0 : Int32)), .val (.double FP.dconst1), .second, .val (.long (0 : Int64)), .second, .val (.long vb), .second, .val (.long va), .second, .val (.long vu), .second, .val (.long vt), .second, .val (.long vc), .second, .val (.ref b1), .val (.ref b14), .val (.int (0 : Int32)), .val (.int (0 : Int32))] [(.int (1 : Int32))]) G
        obtain ⟨fs, hr, hrun, hended, hW, hsame⟩ := X32.leave (v := some (.int (1 : Int32))) (fun h => by rw [Bd.returns] at h; cases h)
        have hq : ∀ L, Fr n0 L → Q_rm0 Z p0 p1 p2 p3 p4 p5 h0 n0 (some (.int (1 : Int32))) T32.heap L := by
          intro L hN
          rw [eh32]
          exact ⟨rfl, hN⟩
        rw [hG]
        exact Gl.fin (retN X32 hx (t := .boolean) Bd.returns (by simp) (hb hby at_202) hr) ⟨_, hrun, hended, _, _, rfl, hq _ N32_, ⟨_, rfl⟩, hW, hsame.mono (by decide) (by decide)⟩
      · by_cases e3 : vt.toInt < vu.toInt - vc.toInt
        · have G37 : Fld Z T22.heap b1 "com/example/sortie/sortie/solver/Cost" "value" "D" (.double (FP.dmul (FP.l2d va) FP.dconst1)) := ((P10.ext E14).keep K22 (ninS ne15 nin0))
          have G38 : Fld Z T22.heap b1 "com/example/sortie/sortie/solver/Cost" "tieBreak" "D" (.double (FP.dmul (FP.l2d vt) FP.dconst1)) := ((P11.ext E14).keep K22 (ninS ne15 nin0))
          have G39 : Exa Z T22.heap b1 "com/example/sortie/sortie/solver/Cost" := ((P9.ext E14).keep K22)
          obtain ⟨cq36, kq36, q36a, q36b, q36c⟩ := isOf hZ rfl G39
          obtain ⟨_, _, ⟨T36, L36, k36, n36⟩, -, X36, ⟨Lc36, hQ36, l36, y36, z36⟩, st36⟩ := X22.virtualBack hx (y := (⟨"com/example/sortie/sortie/solver/Cost", "below", "(Lcom/example/sortie/sortie/solver/Cost;D)Z"⟩ : MethodName)) (z := (⟨"com/example/sortie/sortie/solver/Cost", "below", "(Lcom/example/sortie/sortie/solver/Cost;D)Z"⟩ : MethodName)) hown (mvT hZ (hw _ (List.mem_of_getElem? (i := 20) rfl))) (mvT hZ (hw _ (List.mem_of_getElem? (i := 21) rfl))) (notFace_of_selects (args := #[]) (mvT hZ (hw _ (List.mem_of_getElem? (i := 23) rfl)))) (mvT hZ (hw _ (List.mem_of_getElem? (i := 23) rfl))) (mvT hZ (hw _ (List.mem_of_getElem? (i := 22) rfl))) (by decide) (backOf (W := 0) (b1b l Z a0 hw [] b1 b14 (FP.dmul (FP.l2d vc) FP.dconst1) (FP.dmul (FP.l2d va) FP.dconst1) (FP.dmul (FP.l2d vb) FP.dconst1) (FP.dmul (FP.l2d vt) FP.dconst1) (FP.dmul (FP.l2d vu) FP.dconst1) T22.heap n0 Z26 G37 P24 G38 P25 m1 k2.1 m3 (fun q => e1 (k1.mp q)) (fun q => e2 (k2.2.mp q)) (k3.mpr e3)) hZ (hw _ (List.mem_of_getElem? (i := 24) rfl)) (hw _ (List.mem_of_getElem? (i := 4) rfl)) (by decide) (by decide)) q36a q36c (g := (mkF m 145 #[.val (.int p0), .val (.int p1), .val (.int p2), .val (.int p3), .val (.int p4), .val (.int p5), .val (.int (0 : Int32)), .val (.double FP.dconst1), .second, .val (.long (0 : Int64)), .second, .val (.long vb), .second, .val (.long va), .second, .val (.long vu), .second, .val (.long vt), .second, .val (.long vc), .second, .val (.ref b1), .val (.ref b14), .unset, .unset] [(.double (FP.dmul (FP.l2d vc) FP.dconst1)), (.ref b14), (.ref b1)])) rfl (by rw [hml]; rfl) (Steps.refl _) (argsL := [(.ref b14), (.double (FP.dmul (FP.l2d vc) FP.dconst1))]) (rest := []) (lenOf pd_2 rfl) rfl (by show 2 * 0 + _ ≤ _; exact Nat.le_of_eq rfl) (hb hby at_145) (fun _ _ => ⟨rfl, rfl, (by decide : 2 + 0 ≤ _), (by decide : 4 + 0 ≤ _)⟩)
          dsimp only [Pt.U, Pt.locs, Pt.cells, Pt.slots] at X36 l36 y36 z36 st36 hQ36
          subst l36 y36 z36
          obtain ⟨rfl, N36q, eh36⟩ := hQ36
          have N36_ := Fr.app N22_ N36q
          refine Gl.via (fun _ k => st36.trans k) ?_
          show Gl p.tables e below T36 (mkF m 148 #[.val (.int p0), .val (.int p1), .val (.int p2), .val (.int p3), .val (.int p4), .val (.int p5), .val (.int (0 : Int32)), .val (.double FP.dconst1), .second, .val (.long (0 : Int64)), .second, .val (.long vb), .second, .val (.long va), .second, .val (.long vu), .second, .val (.long vt), .second, .val (.long vc), .second, .val (.ref b1), .val (.ref b14), .unset, .unset] [(.int (1 : Int32))]) G
          refine Gl.via (fun _ k => XS.istore X36.here hx rfl (hb hby at_148) rfl (l' := #[.val (.int p0), .val (.int p1), .val (.int p2), .val (.int p3), .val (.int p4), .val (.int p5), .val (.int (0 : Int32)), .val (.double FP.dconst1), .second, .val (.long (0 : Int64)), .second, .val (.long vb), .second, .val (.long va), .second, .val (.long vu), .second, .val (.long vt), .second, .val (.long vc), .second, .val (.ref b1), .val (.ref b14), .val (.int (1 : Int32)), .unset]) rfl k) ?_
          show Gl p.tables e below T36 (mkF m 150 #[.val (.int p0), .val (.int p1), .val (.int p2), .val (.int p3), .val (.int p4), .val (.int p5), .val (.int (0 : Int32)), .val (.double FP.dconst1), .second, .val (.long (0 : Int64)), .second, .val (.long vb), .second, .val (.long va), .second, .val (.long vu), .second, .val (.long vt), .second, .val (.long vc), .second, .val (.ref b1), .val (.ref b14), .val (.int (1 : Int32)), .unset] []) G
          refine Gl.via (fun _ k => XS.lload X36.here hx rfl (hb hby at_150) rfl k) ?_
          show Gl p.tables e below T36 (mkF m 152 #[.val (.int p0), .val (.int p1), .val (.int p2), .val (.int p3), .val (.int p4), .val (.int p5), .val (.int (0 : Int32)), .val (.double FP.dconst1), .second, .val (.long (0 : Int64)), .second, .val (.long vb), .second, .val (.long va), .second, .val (.long vu), .second, .val (.long vt), .second, .val (.long vc), .second, .val (.ref b1), .val (.ref b14), .val (.int (1 : Int32)), .unset] [(.long va)]) G
          refine Gl.via (fun _ k => XS.lload X36.here hx rfl (hb hby at_152) rfl k) ?_
          show Gl p.tables e below T36 (mkF m 154 #[.val (.int p0), .val (.int p1), .val (.int p2), .val (.int p3), .val (.int p4), .val (.int p5), .val (.int (0 : Int32)), .val (.double FP.dconst1), .second, .val (.long (0 : Int64)), .second, .val (.long vb), .second, .val (.long va), .second, .val (.long vu), .second, .val (.long vt), .second, .val (.long vc), .second, .val (.ref b1), .val (.ref b14), .val (.int (1 : Int32)), .unset] [(.long vb), (.long va)]) G
          refine Gl.via (fun _ k => XS.lload X36.here hx rfl (hb hby at_154) rfl k) ?_
          show Gl p.tables e below T36 (mkF m 156 #[.val (.int p0), .val (.int p1), .val (.int p2), .val (.int p3), .val (.int p4), .val (.int p5), .val (.int (0 : Int32)), .val (.double FP.dconst1), .second, .val (.long (0 : Int64)), .second, .val (.long vb), .second, .val (.long va), .second, .val (.long vu), .second, .val (.long vt), .second, .val (.long vc), .second, .val (.ref b1), .val (.ref b14), .val (.int (1 : Int32)), .unset] [(.long vc), (.long vb), (.long va)]) G
          refine Gl.via (fun _ k => XS.lsub X36.here hx rfl (hb hby at_156) rfl k) ?_
          show Gl p.tables e below T36 (mkF m 157 #[.val (.int p0), .val (.int p1), .val (.int p2), .val (.int p3), .val (.int p4), .val (.int p5), .val (.int (0 : Int32)), .val (.double FP.dconst1), .second, .val (.long (0 : Int64)), .second, .val (.long vb), .second, .val (.long va), .second, .val (.long vu), .second, .val (.long vt), .second, .val (.long vc), .second, .val (.ref b1), .val (.ref b14), .val (.int (1 : Int32)), .unset] [(.long (vb - vc)), (.long va)]) G
          refine Gl.via (fun _ k => XS.lcmp X36.here hx rfl (hb hby at_157) rfl k) ?_
          show Gl p.tables e below T36 (mkF m 158 #[.val (.int p0), .val (.int p1), .val (.int p2), .val (.int p3), .val (.int p4), .val (.int p5), .val (.int (0 : Int32)), .val (.double FP.dconst1), .second, .val (.long (0 : Int64)), .second, .val (.long vb), .second, .val (.long va), .second, .val (.long vu), .second, .val (.long vt), .second, .val (.long vc), .second, .val (.ref b1), .val (.ref b14), .val (.int (1 : Int32)), .unset] [(.int (lcmpW va (vb - vc)))]) G
          refine Gl.via (fun _ k => XS.ifNo X36.here hx rfl (hb hby at_158) rfl ((if0 _ _).trans (flt (fun q => e1 ((own_ls hB hC).mp q))).1) k) ?_
          show Gl p.tables e below T36 (mkF m 161 #[.val (.int p0), .val (.int p1), .val (.int p2), .val (.int p3), .val (.int p4), .val (.int p5), .val (.int (0 : Int32)), .val (.double FP.dconst1), .second, .val (.long (0 : Int64)), .second, .val (.long vb), .second, .val (.long va), .second, .val (.long vu), .second, .val (.long vt), .second, .val (.long vc), .second, .val (.ref b1), .val (.ref b14), .val (.int (1 : Int32)), .unset] []) G
          refine Gl.via (fun _ k => XS.lload X36.here hx rfl (hb hby at_161) rfl k) ?_
          show Gl p.tables e below T36 (mkF m 163 #[.val (.int p0), .val (.int p1), .val (.int p2), .val (.int p3), .val (.int p4), .val (.int p5), .val (.int (0 : Int32)), .val (.double FP.dconst1), .second, .val (.long (0 : Int64)), .second, .val (.long vb), .second, .val (.long va), .second, .val (.long vu), .second, .val (.long vt), .second, .val (.long vc), .second, .val (.ref b1), .val (.ref b14), .val (.int (1 : Int32)), .unset] [(.long va)]) G
          refine Gl.via (fun _ k => XS.lload X36.here hx rfl (hb hby at_163) rfl k) ?_
          show Gl p.tables e below T36 (mkF m 165 #[.val (.int p0), .val (.int p1), .val (.int p2), .val (.int p3), .val (.int p4), .val (.int p5), .val (.int (0 : Int32)), .val (.double FP.dconst1), .second, .val (.long (0 : Int64)), .second, .val (.long vb), .second, .val (.long va), .second, .val (.long vu), .second, .val (.long vt), .second, .val (.long vc), .second, .val (.ref b1), .val (.ref b14), .val (.int (1 : Int32)), .unset] [(.long vb), (.long va)]) G
          refine Gl.via (fun _ k => XS.lload X36.here hx rfl (hb hby at_165) rfl k) ?_
          show Gl p.tables e below T36 (mkF m 167 #[.val (.int p0), .val (.int p1), .val (.int p2), .val (.int p3), .val (.int p4), .val (.int p5), .val (.int (0 : Int32)), .val (.double FP.dconst1), .second, .val (.long (0 : Int64)), .second, .val (.long vb), .second, .val (.long va), .second, .val (.long vu), .second, .val (.long vt), .second, .val (.long vc), .second, .val (.ref b1), .val (.ref b14), .val (.int (1 : Int32)), .unset] [(.long (0 : Int64)), (.long vb), (.long va)]) G
          refine Gl.via (fun _ k => XS.ladd X36.here hx rfl (hb hby at_167) rfl k) ?_
          show Gl p.tables e below T36 (mkF m 168 #[.val (.int p0), .val (.int p1), .val (.int p2), .val (.int p3), .val (.int p4), .val (.int p5), .val (.int (0 : Int32)), .val (.double FP.dconst1), .second, .val (.long (0 : Int64)), .second, .val (.long vb), .second, .val (.long va), .second, .val (.long vu), .second, .val (.long vt), .second, .val (.long vc), .second, .val (.ref b1), .val (.ref b14), .val (.int (1 : Int32)), .unset] [(.long (vb + (0 : Int64))), (.long va)]) G
          refine Gl.via (fun _ k => XS.lcmp X36.here hx rfl (hb hby at_168) rfl k) ?_
          show Gl p.tables e below T36 (mkF m 169 #[.val (.int p0), .val (.int p1), .val (.int p2), .val (.int p3), .val (.int p4), .val (.int p5), .val (.int (0 : Int32)), .val (.double FP.dconst1), .second, .val (.long (0 : Int64)), .second, .val (.long vb), .second, .val (.long va), .second, .val (.long vu), .second, .val (.long vt), .second, .val (.long vc), .second, .val (.ref b1), .val (.ref b14), .val (.int (1 : Int32)), .unset] [(.int (lcmpW va (vb + (0 : Int64))))]) G
          refine Gl.via (fun _ k => XS.ifNo X36.here hx rfl (hb hby at_169) rfl ((if0 _ _).trans (flt (fun q => e2 ((own_la hB (by decide : (0 : Int64).toInt = 0) (by decide)).mp q))).2.2.1) k) ?_
          show Gl p.tables e below T36 (mkF m 172 #[.val (.int p0), .val (.int p1), .val (.int p2), .val (.int p3), .val (.int p4), .val (.int p5), .val (.int (0 : Int32)), .val (.double FP.dconst1), .second, .val (.long (0 : Int64)), .second, .val (.long vb), .second, .val (.long va), .second, .val (.long vu), .second, .val (.long vt), .second, .val (.long vc), .second, .val (.ref b1), .val (.ref b14), .val (.int (1 : Int32)), .unset] []) G
          refine Gl.via (fun _ k => XS.lload X36.here hx rfl (hb hby at_172) rfl k) ?_
          show Gl p.tables e below T36 (mkF m 174 #[.val (.int p0), .val (.int p1), .val (.int p2), .val (.int p3), .val (.int p4), .val (.int p5), .val (.int (0 : Int32)), .val (.double FP.dconst1), .second, .val (.long (0 : Int64)), .second, .val (.long vb), .second, .val (.long va), .second, .val (.long vu), .second, .val (.long vt), .second, .val (.long vc), .second, .val (.ref b1), .val (.ref b14), .val (.int (1 : Int32)), .unset] [(.long vt)]) G
          refine Gl.via (fun _ k => XS.lload X36.here hx rfl (hb hby at_174) rfl k) ?_
          show Gl p.tables e below T36 (mkF m 176 #[.val (.int p0), .val (.int p1), .val (.int p2), .val (.int p3), .val (.int p4), .val (.int p5), .val (.int (0 : Int32)), .val (.double FP.dconst1), .second, .val (.long (0 : Int64)), .second, .val (.long vb), .second, .val (.long va), .second, .val (.long vu), .second, .val (.long vt), .second, .val (.long vc), .second, .val (.ref b1), .val (.ref b14), .val (.int (1 : Int32)), .unset] [(.long vu), (.long vt)]) G
          refine Gl.via (fun _ k => XS.lload X36.here hx rfl (hb hby at_176) rfl k) ?_
          show Gl p.tables e below T36 (mkF m 178 #[.val (.int p0), .val (.int p1), .val (.int p2), .val (.int p3), .val (.int p4), .val (.int p5), .val (.int (0 : Int32)), .val (.double FP.dconst1), .second, .val (.long (0 : Int64)), .second, .val (.long vb), .second, .val (.long va), .second, .val (.long vu), .second, .val (.long vt), .second, .val (.long vc), .second, .val (.ref b1), .val (.ref b14), .val (.int (1 : Int32)), .unset] [(.long vc), (.long vu), (.long vt)]) G
          refine Gl.via (fun _ k => XS.lsub X36.here hx rfl (hb hby at_178) rfl k) ?_
          show Gl p.tables e below T36 (mkF m 179 #[.val (.int p0), .val (.int p1), .val (.int p2), .val (.int p3), .val (.int p4), .val (.int p5), .val (.int (0 : Int32)), .val (.double FP.dconst1), .second, .val (.long (0 : Int64)), .second, .val (.long vb), .second, .val (.long va), .second, .val (.long vu), .second, .val (.long vt), .second, .val (.long vc), .second, .val (.ref b1), .val (.ref b14), .val (.int (1 : Int32)), .unset] [(.long (vu - vc)), (.long vt)]) G
          refine Gl.via (fun _ k => XS.lcmp X36.here hx rfl (hb hby at_179) rfl k) ?_
          show Gl p.tables e below T36 (mkF m 180 #[.val (.int p0), .val (.int p1), .val (.int p2), .val (.int p3), .val (.int p4), .val (.int p5), .val (.int (0 : Int32)), .val (.double FP.dconst1), .second, .val (.long (0 : Int64)), .second, .val (.long vb), .second, .val (.long va), .second, .val (.long vu), .second, .val (.long vt), .second, .val (.long vc), .second, .val (.ref b1), .val (.ref b14), .val (.int (1 : Int32)), .unset] [(.int (lcmpW vt (vu - vc)))]) G
          refine Gl.via (fun _ k => XS.ifNo X36.here hx rfl (hb hby at_180) rfl ((if0 _ _).trans (tlt ((own_ls hTB hC).mpr e3)).2.1) k) ?_
          show Gl p.tables e below T36 (mkF m 183 #[.val (.int p0), .val (.int p1), .val (.int p2), .val (.int p3), .val (.int p4), .val (.int p5), .val (.int (0 : Int32)), .val (.double FP.dconst1), .second, .val (.long (0 : Int64)), .second, .val (.long vb), .second, .val (.long va), .second, .val (.long vu), .second, .val (.long vt), .second, .val (.long vc), .second, .val (.ref b1), .val (.ref b14), .val (.int (1 : Int32)), .unset] []) G
          refine Gl.via (fun _ k => XS.iconst X36.here hx rfl (hb hby at_183) k) ?_
          show Gl p.tables e below T36 (mkF m 184 #[.val (.int p0), .val (.int p1), .val (.int p2), .val (.int p3), .val (.int p4), .val (.int p5), .val (.int (0 : Int32)), .val (.double FP.dconst1), .second, .val (.long (0 : Int64)), .second, .val (.long vb), .second, .val (.long va), .second, .val (.long vu), .second, .val (.long vt), .second, .val (.long vc), .second, .val (.ref b1), .val (.ref b14), .val (.int (1 : Int32)), .unset] [(.int (1 : Int32))]) G
          refine Gl.via (fun _ k => XS.goto X36.here hx rfl (pc0 := 184) (pc' := 188) rfl (hb hby at_184) (by decide) (by decide) k) ?_
          show Gl p.tables e below T36 (mkF m 188 #[.val (.int p0), .val (.int p1), .val (.int p2), .val (.int p3), .val (.int p4), .val (.int p5), .val (.int (0 : Int32)), .val (.double FP.dconst1), .second, .val (.long (0 : Int64)), .second, .val (.long vb), .second, .val (.long va), .second, .val (.long vu), .second, .val (.long vt), .second, .val (.long vc), .second, .val (.ref b1), .val (.ref b14), .val (.int (1 : Int32)), .unset] [(.int (1 : Int32))]) G
          refine Gl.via (fun _ k => XS.istore X36.here hx rfl (hb hby at_188) rfl (l' := #[.val (.int p0), .val (.int p1), .val (.int p2), .val (.int p3), .val (.int p4), .val (.int p5), .val (.int (0 : Int32)), .val (.double FP.dconst1), .second, .val (.long (0 : Int64)), .second, .val (.long vb), .second, .val (.long va), .second, .val (.long vu), .second, .val (.long vt), .second, .val (.long vc), .second, .val (.ref b1), .val (.ref b14), .val (.int (1 : Int32)), .val (.int (1 : Int32))]) rfl k) ?_
          show Gl p.tables e below T36 (mkF m 190 #[.val (.int p0), .val (.int p1), .val (.int p2), .val (.int p3), .val (.int p4), .val (.int p5), .val (.int (0 : Int32)), .val (.double FP.dconst1), .second, .val (.long (0 : Int64)), .second, .val (.long vb), .second, .val (.long va), .second, .val (.long vu), .second, .val (.long vt), .second, .val (.long vc), .second, .val (.ref b1), .val (.ref b14), .val (.int (1 : Int32)), .val (.int (1 : Int32))] []) G
          refine Gl.via (fun _ k => XS.iload X36.here hx rfl (hb hby at_190) rfl k) ?_
          show Gl p.tables e below T36 (mkF m 192 #[.val (.int p0), .val (.int p1), .val (.int p2), .val (.int p3), .val (.int p4), .val (.int p5), .val (.int (0 : Int32)), .val (.double FP.dconst1), .second, .val (.long (0 : Int64)), .second, .val (.long vb), .second, .val (.long va), .second, .val (.long vu), .second, .val (.long vt), .second, .val (.long vc), .second, .val (.ref b1), .val (.ref b14), .val (.int (1 : Int32)), .val (.int (1 : Int32))] [(.int (1 : Int32))]) G
          refine Gl.via (fun _ k => XS.iload X36.here hx rfl (hb hby at_192) rfl k) ?_
          show Gl p.tables e below T36 (mkF m 194 #[.val (.int p0), .val (.int p1), .val (.int p2), .val (.int p3), .val (.int p4), .val (.int p5), .val (.int (0 : Int32)), .val (.double FP.dconst1), .second, .val (.long (0 : Int64)), .second, .val (.long vb), .second, .val (.long va), .second, .val (.long vu), .second, .val (.long vt), .second, .val (.long vc), .second, .val (.ref b1), .val (.ref b14), .val (.int (1 : Int32)), .val (.int (1 : Int32))] [(.int (1 : Int32)), (.int (1 : Int32))]) G
          refine Gl.via (fun _ k => XS.icmpNo X36.here hx rfl (hb hby at_194) rfl (teq (by decide)).2 k) ?_
          show Gl p.tables e below T36 (mkF m 197 #[.val (.int p0), .val (.int p1), .val (.int p2), .val (.int p3), .val (.int p4), .val (.int p5), .val (.int (0 : Int32)), .val (.double FP.dconst1), .second, .val (.long (0 : Int64)), .second, .val (.long vb), .second, .val (.long va), .second, .val (.long vu), .second, .val (.long vt), .second, .val (.long vc), .second, .val (.ref b1), .val (.ref b14), .val (.int (1 : Int32)), .val (.int (1 : Int32))] []) G
          refine Gl.via (fun _ k => XS.iconst X36.here hx rfl (hb hby at_197) k) ?_
          show Gl p.tables e below T36 (mkF m 198 #[.val (.int p0), .val (.int p1), .val (.int p2), .val (.int p3), .val (.int p4), .val (.int p5), .val (.int (0 : Int32)), .val (.double FP.dconst1), .second, .val (.long (0 : Int64)), .second, .val (.long vb), .second, .val (.long va), .second, .val (.long vu), .second, .val (.long vt), .second, .val (.long vc), .second, .val (.ref b1), .val (.ref b14), .val (.int (1 : Int32)), .val (.int (1 : Int32))] [(.int (1 : Int32))]) G
          refine Gl.via (fun _ k => XS.goto X36.here hx rfl (pc0 := 198) (pc' := 202) rfl (hb hby at_198) (by decide) (by decide) k) ?_
          show Gl p.tables e below T36 (mkF m 202 #[.val (.int p0), .val (.int p1), .val (.int p2), .val (.int p3), .val (.int p4), .val (.int p5), .val (.int (0 : Int32)), .val (.double FP.dconst1), .second, .val (.long (0 : Int64)), .second, .val (.long vb), .second, .val (.long va), .second, .val (.long vu), .second, .val (.long vt), .second, .val (.long vc), .second, .val (.ref b1), .val (.ref b14), .val (.int (1 : Int32)), .val (.int (1 : Int32))] [(.int (1 : Int32))]) G
          obtain ⟨fs, hr, hrun, hended, hW, hsame⟩ := X36.leave (v := some (.int (1 : Int32))) (fun h => by rw [Bd.returns] at h; cases h)
          have hq : ∀ L, Fr n0 L → Q_rm0 Z p0 p1 p2 p3 p4 p5 h0 n0 (some (.int (1 : Int32))) T36.heap L := by
            intro L hN
            rw [eh36]
            exact ⟨rfl, hN⟩
          rw [hG]
          exact Gl.fin (retN X36 hx (t := .boolean) Bd.returns (by simp) (hb hby at_202) hr) ⟨_, hrun, hended, _, _, rfl, hq _ N36_, ⟨_, rfl⟩, hW, hsame.mono (by decide) (by decide)⟩
        · have G41 : Fld Z T22.heap b1 "com/example/sortie/sortie/solver/Cost" "value" "D" (.double (FP.dmul (FP.l2d va) FP.dconst1)) := ((P10.ext E14).keep K22 (ninS ne15 nin0))
          have G42 : Fld Z T22.heap b1 "com/example/sortie/sortie/solver/Cost" "tieBreak" "D" (.double (FP.dmul (FP.l2d vt) FP.dconst1)) := ((P11.ext E14).keep K22 (ninS ne15 nin0))
          have G43 : Exa Z T22.heap b1 "com/example/sortie/sortie/solver/Cost" := ((P9.ext E14).keep K22)
          obtain ⟨cq40, kq40, q40a, q40b, q40c⟩ := isOf hZ rfl G43
          obtain ⟨_, _, ⟨T40, L40, k40, n40⟩, -, X40, ⟨Lc40, hQ40, l40, y40, z40⟩, st40⟩ := X22.virtualBack hx (y := (⟨"com/example/sortie/sortie/solver/Cost", "below", "(Lcom/example/sortie/sortie/solver/Cost;D)Z"⟩ : MethodName)) (z := (⟨"com/example/sortie/sortie/solver/Cost", "below", "(Lcom/example/sortie/sortie/solver/Cost;D)Z"⟩ : MethodName)) hown (mvT hZ (hw _ (List.mem_of_getElem? (i := 20) rfl))) (mvT hZ (hw _ (List.mem_of_getElem? (i := 21) rfl))) (notFace_of_selects (args := #[]) (mvT hZ (hw _ (List.mem_of_getElem? (i := 23) rfl)))) (mvT hZ (hw _ (List.mem_of_getElem? (i := 23) rfl))) (mvT hZ (hw _ (List.mem_of_getElem? (i := 22) rfl))) (by decide) (backOf (W := 0) (b0b l Z a0 hw [] b1 b14 (FP.dmul (FP.l2d vc) FP.dconst1) (FP.dmul (FP.l2d va) FP.dconst1) (FP.dmul (FP.l2d vb) FP.dconst1) (FP.dmul (FP.l2d vt) FP.dconst1) (FP.dmul (FP.l2d vu) FP.dconst1) T22.heap n0 Z26 G41 P24 G42 P25 m1 k2.1 m3 (fun q => e1 (k1.mp q)) (fun q => e2 (k2.2.mp q)) (fun q => e3 (k3.mp q))) hZ (hw _ (List.mem_of_getElem? (i := 24) rfl)) (hw _ (List.mem_of_getElem? (i := 4) rfl)) (by decide) (by decide)) q40a q40c (g := (mkF m 145 #[.val (.int p0), .val (.int p1), .val (.int p2), .val (.int p3), .val (.int p4), .val (.int p5), .val (.int (0 : Int32)), .val (.double FP.dconst1), .second, .val (.long (0 : Int64)), .second, .val (.long vb), .second, .val (.long va), .second, .val (.long vu), .second, .val (.long vt), .second, .val (.long vc), .second, .val (.ref b1), .val (.ref b14), .unset, .unset] [(.double (FP.dmul (FP.l2d vc) FP.dconst1)), (.ref b14), (.ref b1)])) rfl (by rw [hml]; rfl) (Steps.refl _) (argsL := [(.ref b14), (.double (FP.dmul (FP.l2d vc) FP.dconst1))]) (rest := []) (lenOf pd_2 rfl) rfl (by show 2 * 0 + _ ≤ _; exact Nat.le_of_eq rfl) (hb hby at_145) (fun _ _ => ⟨rfl, rfl, (by decide : 2 + 0 ≤ _), (by decide : 4 + 0 ≤ _)⟩)
          dsimp only [Pt.U, Pt.locs, Pt.cells, Pt.slots] at X40 l40 y40 z40 st40 hQ40
          subst l40 y40 z40
          obtain ⟨rfl, N40q, eh40⟩ := hQ40
          have N40_ := Fr.app N22_ N40q
          refine Gl.via (fun _ k => st40.trans k) ?_
          show Gl p.tables e below T40 (mkF m 148 #[.val (.int p0), .val (.int p1), .val (.int p2), .val (.int p3), .val (.int p4), .val (.int p5), .val (.int (0 : Int32)), .val (.double FP.dconst1), .second, .val (.long (0 : Int64)), .second, .val (.long vb), .second, .val (.long va), .second, .val (.long vu), .second, .val (.long vt), .second, .val (.long vc), .second, .val (.ref b1), .val (.ref b14), .unset, .unset] [(.int (0 : Int32))]) G
          refine Gl.via (fun _ k => XS.istore X40.here hx rfl (hb hby at_148) rfl (l' := #[.val (.int p0), .val (.int p1), .val (.int p2), .val (.int p3), .val (.int p4), .val (.int p5), .val (.int (0 : Int32)), .val (.double FP.dconst1), .second, .val (.long (0 : Int64)), .second, .val (.long vb), .second, .val (.long va), .second, .val (.long vu), .second, .val (.long vt), .second, .val (.long vc), .second, .val (.ref b1), .val (.ref b14), .val (.int (0 : Int32)), .unset]) rfl k) ?_
          show Gl p.tables e below T40 (mkF m 150 #[.val (.int p0), .val (.int p1), .val (.int p2), .val (.int p3), .val (.int p4), .val (.int p5), .val (.int (0 : Int32)), .val (.double FP.dconst1), .second, .val (.long (0 : Int64)), .second, .val (.long vb), .second, .val (.long va), .second, .val (.long vu), .second, .val (.long vt), .second, .val (.long vc), .second, .val (.ref b1), .val (.ref b14), .val (.int (0 : Int32)), .unset] []) G
          refine Gl.via (fun _ k => XS.lload X40.here hx rfl (hb hby at_150) rfl k) ?_
          show Gl p.tables e below T40 (mkF m 152 #[.val (.int p0), .val (.int p1), .val (.int p2), .val (.int p3), .val (.int p4), .val (.int p5), .val (.int (0 : Int32)), .val (.double FP.dconst1), .second, .val (.long (0 : Int64)), .second, .val (.long vb), .second, .val (.long va), .second, .val (.long vu), .second, .val (.long vt), .second, .val (.long vc), .second, .val (.ref b1), .val (.ref b14), .val (.int (0 : Int32)), .unset] [(.long va)]) G
          refine Gl.via (fun _ k => XS.lload X40.here hx rfl (hb hby at_152) rfl k) ?_
          show Gl p.tables e below T40 (mkF m 154 #[.val (.int p0), .val (.int p1), .val (.int p2), .val (.int p3), .val (.int p4), .val (.int p5), .val (.int (0 : Int32)), .val (.double FP.dconst1), .second, .val (.long (0 : Int64)), .second, .val (.long vb), .second, .val (.long va), .second, .val (.long vu), .second, .val (.long vt), .second, .val (.long vc), .second, .val (.ref b1), .val (.ref b14), .val (.int (0 : Int32)), .unset] [(.long vb), (.long va)]) G
          refine Gl.via (fun _ k => XS.lload X40.here hx rfl (hb hby at_154) rfl k) ?_
          show Gl p.tables e below T40 (mkF m 156 #[.val (.int p0), .val (.int p1), .val (.int p2), .val (.int p3), .val (.int p4), .val (.int p5), .val (.int (0 : Int32)), .val (.double FP.dconst1), .second, .val (.long (0 : Int64)), .second, .val (.long vb), .second, .val (.long va), .second, .val (.long vu), .second, .val (.long vt), .second, .val (.long vc), .second, .val (.ref b1), .val (.ref b14), .val (.int (0 : Int32)), .unset] [(.long vc), (.long vb), (.long va)]) G
          refine Gl.via (fun _ k => XS.lsub X40.here hx rfl (hb hby at_156) rfl k) ?_
          show Gl p.tables e below T40 (mkF m 157 #[.val (.int p0), .val (.int p1), .val (.int p2), .val (.int p3), .val (.int p4), .val (.int p5), .val (.int (0 : Int32)), .val (.double FP.dconst1), .second, .val (.long (0 : Int64)), .second, .val (.long vb), .second, .val (.long va), .second, .val (.long vu), .second, .val (.long vt), .second, .val (.long vc), .second, .val (.ref b1), .val (.ref b14), .val (.int (0 : Int32)), .unset] [(.long (vb - vc)), (.long va)]) G
          refine Gl.via (fun _ k => XS.lcmp X40.here hx rfl (hb hby at_157) rfl k) ?_
          show Gl p.tables e below T40 (mkF m 158 #[.val (.int p0), .val (.int p1), .val (.int p2), .val (.int p3), .val (.int p4), .val (.int p5), .val (.int (0 : Int32)), .val (.double FP.dconst1), .second, .val (.long (0 : Int64)), .second, .val (.long vb), .second, .val (.long va), .second, .val (.long vu), .second, .val (.long vt), .second, .val (.long vc), .second, .val (.ref b1), .val (.ref b14), .val (.int (0 : Int32)), .unset] [(.int (lcmpW va (vb - vc)))]) G
          refine Gl.via (fun _ k => XS.ifNo X40.here hx rfl (hb hby at_158) rfl ((if0 _ _).trans (flt (fun q => e1 ((own_ls hB hC).mp q))).1) k) ?_
          show Gl p.tables e below T40 (mkF m 161 #[.val (.int p0), .val (.int p1), .val (.int p2), .val (.int p3), .val (.int p4), .val (.int p5), .val (.int (0 : Int32)), .val (.double FP.dconst1), .second, .val (.long (0 : Int64)), .second, .val (.long vb), .second, .val (.long va), .second, .val (.long vu), .second, .val (.long vt), .second, .val (.long vc), .second, .val (.ref b1), .val (.ref b14), .val (.int (0 : Int32)), .unset] []) G
          refine Gl.via (fun _ k => XS.lload X40.here hx rfl (hb hby at_161) rfl k) ?_
          show Gl p.tables e below T40 (mkF m 163 #[.val (.int p0), .val (.int p1), .val (.int p2), .val (.int p3), .val (.int p4), .val (.int p5), .val (.int (0 : Int32)), .val (.double FP.dconst1), .second, .val (.long (0 : Int64)), .second, .val (.long vb), .second, .val (.long va), .second, .val (.long vu), .second, .val (.long vt), .second, .val (.long vc), .second, .val (.ref b1), .val (.ref b14), .val (.int (0 : Int32)), .unset] [(.long va)]) G
          refine Gl.via (fun _ k => XS.lload X40.here hx rfl (hb hby at_163) rfl k) ?_
          show Gl p.tables e below T40 (mkF m 165 #[.val (.int p0), .val (.int p1), .val (.int p2), .val (.int p3), .val (.int p4), .val (.int p5), .val (.int (0 : Int32)), .val (.double FP.dconst1), .second, .val (.long (0 : Int64)), .second, .val (.long vb), .second, .val (.long va), .second, .val (.long vu), .second, .val (.long vt), .second, .val (.long vc), .second, .val (.ref b1), .val (.ref b14), .val (.int (0 : Int32)), .unset] [(.long vb), (.long va)]) G
          refine Gl.via (fun _ k => XS.lload X40.here hx rfl (hb hby at_165) rfl k) ?_
          show Gl p.tables e below T40 (mkF m 167 #[.val (.int p0), .val (.int p1), .val (.int p2), .val (.int p3), .val (.int p4), .val (.int p5), .val (.int (0 : Int32)), .val (.double FP.dconst1), .second, .val (.long (0 : Int64)), .second, .val (.long vb), .second, .val (.long va), .second, .val (.long vu), .second, .val (.long vt), .second, .val (.long vc), .second, .val (.ref b1), .val (.ref b14), .val (.int (0 : Int32)), .unset] [(.long (0 : Int64)), (.long vb), (.long va)]) G
          refine Gl.via (fun _ k => XS.ladd X40.here hx rfl (hb hby at_167) rfl k) ?_
          show Gl p.tables e below T40 (mkF m 168 #[.val (.int p0), .val (.int p1), .val (.int p2), .val (.int p3), .val (.int p4), .val (.int p5), .val (.int (0 : Int32)), .val (.double FP.dconst1), .second, .val (.long (0 : Int64)), .second, .val (.long vb), .second, .val (.long va), .second, .val (.long vu), .second, .val (.long vt), .second, .val (.long vc), .second, .val (.ref b1), .val (.ref b14), .val (.int (0 : Int32)), .unset] [(.long (vb + (0 : Int64))), (.long va)]) G
          refine Gl.via (fun _ k => XS.lcmp X40.here hx rfl (hb hby at_168) rfl k) ?_
          show Gl p.tables e below T40 (mkF m 169 #[.val (.int p0), .val (.int p1), .val (.int p2), .val (.int p3), .val (.int p4), .val (.int p5), .val (.int (0 : Int32)), .val (.double FP.dconst1), .second, .val (.long (0 : Int64)), .second, .val (.long vb), .second, .val (.long va), .second, .val (.long vu), .second, .val (.long vt), .second, .val (.long vc), .second, .val (.ref b1), .val (.ref b14), .val (.int (0 : Int32)), .unset] [(.int (lcmpW va (vb + (0 : Int64))))]) G
          refine Gl.via (fun _ k => XS.ifNo X40.here hx rfl (hb hby at_169) rfl ((if0 _ _).trans (flt (fun q => e2 ((own_la hB (by decide : (0 : Int64).toInt = 0) (by decide)).mp q))).2.2.1) k) ?_
          show Gl p.tables e below T40 (mkF m 172 #[.val (.int p0), .val (.int p1), .val (.int p2), .val (.int p3), .val (.int p4), .val (.int p5), .val (.int (0 : Int32)), .val (.double FP.dconst1), .second, .val (.long (0 : Int64)), .second, .val (.long vb), .second, .val (.long va), .second, .val (.long vu), .second, .val (.long vt), .second, .val (.long vc), .second, .val (.ref b1), .val (.ref b14), .val (.int (0 : Int32)), .unset] []) G
          refine Gl.via (fun _ k => XS.lload X40.here hx rfl (hb hby at_172) rfl k) ?_
          show Gl p.tables e below T40 (mkF m 174 #[.val (.int p0), .val (.int p1), .val (.int p2), .val (.int p3), .val (.int p4), .val (.int p5), .val (.int (0 : Int32)), .val (.double FP.dconst1), .second, .val (.long (0 : Int64)), .second, .val (.long vb), .second, .val (.long va), .second, .val (.long vu), .second, .val (.long vt), .second, .val (.long vc), .second, .val (.ref b1), .val (.ref b14), .val (.int (0 : Int32)), .unset] [(.long vt)]) G
          refine Gl.via (fun _ k => XS.lload X40.here hx rfl (hb hby at_174) rfl k) ?_
          show Gl p.tables e below T40 (mkF m 176 #[.val (.int p0), .val (.int p1), .val (.int p2), .val (.int p3), .val (.int p4), .val (.int p5), .val (.int (0 : Int32)), .val (.double FP.dconst1), .second, .val (.long (0 : Int64)), .second, .val (.long vb), .second, .val (.long va), .second, .val (.long vu), .second, .val (.long vt), .second, .val (.long vc), .second, .val (.ref b1), .val (.ref b14), .val (.int (0 : Int32)), .unset] [(.long vu), (.long vt)]) G
          refine Gl.via (fun _ k => XS.lload X40.here hx rfl (hb hby at_176) rfl k) ?_
          show Gl p.tables e below T40 (mkF m 178 #[.val (.int p0), .val (.int p1), .val (.int p2), .val (.int p3), .val (.int p4), .val (.int p5), .val (.int (0 : Int32)), .val (.double FP.dconst1), .second, .val (.long (0 : Int64)), .second, .val (.long vb), .second, .val (.long va), .second, .val (.long vu), .second, .val (.long vt), .second, .val (.long vc), .second, .val (.ref b1), .val (.ref b14), .val (.int (0 : Int32)), .unset] [(.long vc), (.long vu), (.long vt)]) G
          refine Gl.via (fun _ k => XS.lsub X40.here hx rfl (hb hby at_178) rfl k) ?_
          show Gl p.tables e below T40 (mkF m 179 #[.val (.int p0), .val (.int p1), .val (.int p2), .val (.int p3), .val (.int p4), .val (.int p5), .val (.int (0 : Int32)), .val (.double FP.dconst1), .second, .val (.long (0 : Int64)), .second, .val (.long vb), .second, .val (.long va), .second, .val (.long vu), .second, .val (.long vt), .second, .val (.long vc), .second, .val (.ref b1), .val (.ref b14), .val (.int (0 : Int32)), .unset] [(.long (vu - vc)), (.long vt)]) G
          refine Gl.via (fun _ k => XS.lcmp X40.here hx rfl (hb hby at_179) rfl k) ?_
          show Gl p.tables e below T40 (mkF m 180 #[.val (.int p0), .val (.int p1), .val (.int p2), .val (.int p3), .val (.int p4), .val (.int p5), .val (.int (0 : Int32)), .val (.double FP.dconst1), .second, .val (.long (0 : Int64)), .second, .val (.long vb), .second, .val (.long va), .second, .val (.long vu), .second, .val (.long vt), .second, .val (.long vc), .second, .val (.ref b1), .val (.ref b14), .val (.int (0 : Int32)), .unset] [(.int (lcmpW vt (vu - vc)))]) G
          refine Gl.via (fun _ k => XS.ifYes X40.here hx rfl (pc0 := 180) (pc' := 187) rfl (hb hby at_180) rfl ((if0 _ _).trans (flt (fun q => e3 ((own_ls hTB hC).mp q))).2.1) (by decide) (by decide) k) ?_
          show Gl p.tables e below T40 (mkF m 187 #[.val (.int p0), .val (.int p1), .val (.int p2), .val (.int p3), .val (.int p4), .val (.int p5), .val (.int (0 : Int32)), .val (.double FP.dconst1), .second, .val (.long (0 : Int64)), .second, .val (.long vb), .second, .val (.long va), .second, .val (.long vu), .second, .val (.long vt), .second, .val (.long vc), .second, .val (.ref b1), .val (.ref b14), .val (.int (0 : Int32)), .unset] []) G
          refine Gl.via (fun _ k => XS.iconst X40.here hx rfl (hb hby at_187) k) ?_
          show Gl p.tables e below T40 (mkF m 188 #[.val (.int p0), .val (.int p1), .val (.int p2), .val (.int p3), .val (.int p4), .val (.int p5), .val (.int (0 : Int32)), .val (.double FP.dconst1), .second, .val (.long (0 : Int64)), .second, .val (.long vb), .second, .val (.long va), .second, .val (.long vu), .second, .val (.long vt), .second, .val (.long vc), .second, .val (.ref b1), .val (.ref b14), .val (.int (0 : Int32)), .unset] [(.int (0 : Int32))]) G
          refine Gl.via (fun _ k => XS.istore X40.here hx rfl (hb hby at_188) rfl (l' := #[.val (.int p0), .val (.int p1), .val (.int p2), .val (.int p3), .val (.int p4), .val (.int p5), .val (.int (0 : Int32)), .val (.double FP.dconst1), .second, .val (.long (0 : Int64)), .second, .val (.long vb), .second, .val (.long va), .second, .val (.long vu), .second, .val (.long vt), .second, .val (.long vc), .second, .val (.ref b1), .val (.ref b14), .val (.int (0 : Int32)), .val (.int (0 : Int32))]) rfl k) ?_
          show Gl p.tables e below T40 (mkF m 190 #[.val (.int p0), .val (.int p1), .val (.int p2), .val (.int p3), .val (.int p4), .val (.int p5), .val (.int (0 : Int32)), .val (.double FP.dconst1), .second, .val (.long (0 : Int64)), .second, .val (.long vb), .second, .val (.long va), .second, .val (.long vu), .second, .val (.long vt), .second, .val (.long vc), .second, .val (.ref b1), .val (.ref b14), .val (.int (0 : Int32)), .val (.int (0 : Int32))] []) G
          refine Gl.via (fun _ k => XS.iload X40.here hx rfl (hb hby at_190) rfl k) ?_
          show Gl p.tables e below T40 (mkF m 192 #[.val (.int p0), .val (.int p1), .val (.int p2), .val (.int p3), .val (.int p4), .val (.int p5), .val (.int (0 : Int32)), .val (.double FP.dconst1), .second, .val (.long (0 : Int64)), .second, .val (.long vb), .second, .val (.long va), .second, .val (.long vu), .second, .val (.long vt), .second, .val (.long vc), .second, .val (.ref b1), .val (.ref b14), .val (.int (0 : Int32)), .val (.int (0 : Int32))] [(.int (0 : Int32))]) G
          refine Gl.via (fun _ k => XS.iload X40.here hx rfl (hb hby at_192) rfl k) ?_
          show Gl p.tables e below T40 (mkF m 194 #[.val (.int p0), .val (.int p1), .val (.int p2), .val (.int p3), .val (.int p4), .val (.int p5), .val (.int (0 : Int32)), .val (.double FP.dconst1), .second, .val (.long (0 : Int64)), .second, .val (.long vb), .second, .val (.long va), .second, .val (.long vu), .second, .val (.long vt), .second, .val (.long vc), .second, .val (.ref b1), .val (.ref b14), .val (.int (0 : Int32)), .val (.int (0 : Int32))] [(.int (0 : Int32)), (.int (0 : Int32))]) G
          refine Gl.via (fun _ k => XS.icmpNo X40.here hx rfl (hb hby at_194) rfl (teq (by decide)).2 k) ?_
          show Gl p.tables e below T40 (mkF m 197 #[.val (.int p0), .val (.int p1), .val (.int p2), .val (.int p3), .val (.int p4), .val (.int p5), .val (.int (0 : Int32)), .val (.double FP.dconst1), .second, .val (.long (0 : Int64)), .second, .val (.long vb), .second, .val (.long va), .second, .val (.long vu), .second, .val (.long vt), .second, .val (.long vc), .second, .val (.ref b1), .val (.ref b14), .val (.int (0 : Int32)), .val (.int (0 : Int32))] []) G
          refine Gl.via (fun _ k => XS.iconst X40.here hx rfl (hb hby at_197) k) ?_
          show Gl p.tables e below T40 (mkF m 198 #[.val (.int p0), .val (.int p1), .val (.int p2), .val (.int p3), .val (.int p4), .val (.int p5), .val (.int (0 : Int32)), .val (.double FP.dconst1), .second, .val (.long (0 : Int64)), .second, .val (.long vb), .second, .val (.long va), .second, .val (.long vu), .second, .val (.long vt), .second, .val (.long vc), .second, .val (.ref b1), .val (.ref b14), .val (.int (0 : Int32)), .val (.int (0 : Int32))] [(.int (1 : Int32))]) G
          refine Gl.via (fun _ k => XS.goto X40.here hx rfl (pc0 := 198) (pc' := 202) rfl (hb hby at_198) (by decide) (by decide) k) ?_
          show Gl p.tables e below T40 (mkF m 202 #[.val (.int p0), .val (.int p1), .val (.int p2), .val (.int p3), .val (.int p4), .val (.int p5), .val (.int (0 : Int32)), .val (.double FP.dconst1), .second, .val (.long (0 : Int64)), .second, .val (.long vb), .second, .val (.long va), .second, .val (.long vu), .second, .val (.long vt), .second, .val (.long vc), .second, .val (.ref b1), .val (.ref b14), .val (.int (0 : Int32)), .val (.int (0 : Int32))] [(.int (1 : Int32))]) G
          obtain ⟨fs, hr, hrun, hended, hW, hsame⟩ := X40.leave (v := some (.int (1 : Int32))) (fun h => by rw [Bd.returns] at h; cases h)
          have hq : ∀ L, Fr n0 L → Q_rm0 Z p0 p1 p2 p3 p4 p5 h0 n0 (some (.int (1 : Int32))) T40.heap L := by
            intro L hN
            rw [eh40]
            exact ⟨rfl, hN⟩
          rw [hG]
          exact Gl.fin (retN X40 hx (t := .boolean) Bd.returns (by simp) (hb hby at_202) hr) ⟨_, hrun, hended, _, _, rfl, hq _ N40_, ⟨_, rfl⟩, hW, hsame.mono (by decide) (by decide)⟩
  · refine Gl.via (fun _ k => XS.ifNo X0.here hx rfl (hb hby at_4) rfl ((if0 _ _).trans (feq ff).1) k) ?_
    show Gl p.tables e below s₁ (mkF m 7 #[.val (.int p0), .val (.int p1), .val (.int p2), .val (.int p3), .val (.int p4), .val (.int p5), .unset, .unset, .unset, .unset, .unset, .unset, .unset, .unset, .unset, .unset, .unset, .unset, .unset, .unset, .unset, .unset, .unset, .unset, .unset] []) G
    refine Gl.via (fun _ k => XS.iconst X0.here hx rfl (hb hby at_7) k) ?_
    show Gl p.tables e below s₁ (mkF m 8 #[.val (.int p0), .val (.int p1), .val (.int p2), .val (.int p3), .val (.int p4), .val (.int p5), .unset, .unset, .unset, .unset, .unset, .unset, .unset, .unset, .unset, .unset, .unset, .unset, .unset, .unset, .unset, .unset, .unset, .unset, .unset] [(.int (1 : Int32))]) G
    refine Gl.via (fun _ k => XS.goto X0.here hx rfl (pc0 := 8) (pc' := 12) rfl (hb hby at_8) (by decide) (by decide) k) ?_
    show Gl p.tables e below s₁ (mkF m 12 #[.val (.int p0), .val (.int p1), .val (.int p2), .val (.int p3), .val (.int p4), .val (.int p5), .unset, .unset, .unset, .unset, .unset, .unset, .unset, .unset, .unset, .unset, .unset, .unset, .unset, .unset, .unset, .unset, .unset, .unset, .unset] [(.int (1 : Int32))]) G
    refine Gl.via (fun _ k => XS.istore X0.here hx rfl (hb hby at_12) rfl (l' := #[.val (.int p0), .val (.int p1), .val (.int p2), .val (.int p3), .val (.int p4), .val (.int p5), .val (.int (1 : Int32)), .unset, .unset, .unset, .unset, .unset, .unset, .unset, .unset, .unset, .unset, .unset, .unset, .unset, .unset, .unset, .unset, .unset, .unset]) rfl k) ?_
    show Gl p.tables e below s₁ (mkF m 14 #[.val (.int p0), .val (.int p1), .val (.int p2), .val (.int p3), .val (.int p4), .val (.int p5), .val (.int (1 : Int32)), .unset, .unset, .unset, .unset, .unset, .unset, .unset, .unset, .unset, .unset, .unset, .unset, .unset, .unset, .unset, .unset, .unset, .unset] []) G
    refine Gl.via (fun _ k => XS.iload X0.here hx rfl (hb hby at_14) rfl k) ?_
    show Gl p.tables e below s₁ (mkF m 16 #[.val (.int p0), .val (.int p1), .val (.int p2), .val (.int p3), .val (.int p4), .val (.int p5), .val (.int (1 : Int32)), .unset, .unset, .unset, .unset, .unset, .unset, .unset, .unset, .unset, .unset, .unset, .unset, .unset, .unset, .unset, .unset, .unset, .unset] [(.int (1 : Int32))]) G
    refine Gl.via (fun _ k => XS.ifNo X0.here hx rfl (hb hby at_16) rfl ((if0 _ _).trans (feq (by decide)).1) k) ?_
    show Gl p.tables e below s₁ (mkF m 19 #[.val (.int p0), .val (.int p1), .val (.int p2), .val (.int p3), .val (.int p4), .val (.int p5), .val (.int (1 : Int32)), .unset, .unset, .unset, .unset, .unset, .unset, .unset, .unset, .unset, .unset, .unset, .unset, .unset, .unset, .unset, .unset, .unset, .unset] []) G
    refine Gl.via (fun _ k => X0.ldc2DoubleC hx hown (mvT hZ (hw _ (List.mem_of_getElem? (i := 0) rfl))) (g := (mkF m 19 #[.val (.int p0), .val (.int p1), .val (.int p2), .val (.int p3), .val (.int p4), .val (.int p5), .val (.int (1 : Int32)), .unset, .unset, .unset, .unset, .unset, .unset, .unset, .unset, .unset, .unset, .unset, .unset, .unset, .unset, .unset, .unset, .unset, .unset] [])) rfl (hb hby at_19) _ k) ?_
    show Gl p.tables e below s₁ (mkF m 22 #[.val (.int p0), .val (.int p1), .val (.int p2), .val (.int p3), .val (.int p4), .val (.int p5), .val (.int (1 : Int32)), .unset, .unset, .unset, .unset, .unset, .unset, .unset, .unset, .unset, .unset, .unset, .unset, .unset, .unset, .unset, .unset, .unset, .unset] [(.double (4463067230724161536 : UInt64))]) G
    refine Gl.via (fun _ k => XS.goto X0.here hx rfl (pc0 := 22) (pc' := 26) rfl (hb hby at_22) (by decide) (by decide) k) ?_
    show Gl p.tables e below s₁ (mkF m 26 #[.val (.int p0), .val (.int p1), .val (.int p2), .val (.int p3), .val (.int p4), .val (.int p5), .val (.int (1 : Int32)), .unset, .unset, .unset, .unset, .unset, .unset, .unset, .unset, .unset, .unset, .unset, .unset, .unset, .unset, .unset, .unset, .unset, .unset] [(.double (4463067230724161536 : UInt64))]) G
    refine Gl.via (fun _ k => XS.dstore X0.here hx rfl (hb hby at_26) rfl (l' := #[.val (.int p0), .val (.int p1), .val (.int p2), .val (.int p3), .val (.int p4), .val (.int p5), .val (.int (1 : Int32)), .val (.double (4463067230724161536 : UInt64)), .second, .unset, .unset, .unset, .unset, .unset, .unset, .unset, .unset, .unset, .unset, .unset, .unset, .unset, .unset, .unset, .unset]) rfl k) ?_
    show Gl p.tables e below s₁ (mkF m 28 #[.val (.int p0), .val (.int p1), .val (.int p2), .val (.int p3), .val (.int p4), .val (.int p5), .val (.int (1 : Int32)), .val (.double (4463067230724161536 : UInt64)), .second, .unset, .unset, .unset, .unset, .unset, .unset, .unset, .unset, .unset, .unset, .unset, .unset, .unset, .unset, .unset, .unset] []) G
    refine Gl.via (fun _ k => XS.iload X0.here hx rfl (hb hby at_28) rfl k) ?_
    show Gl p.tables e below s₁ (mkF m 30 #[.val (.int p0), .val (.int p1), .val (.int p2), .val (.int p3), .val (.int p4), .val (.int p5), .val (.int (1 : Int32)), .val (.double (4463067230724161536 : UInt64)), .second, .unset, .unset, .unset, .unset, .unset, .unset, .unset, .unset, .unset, .unset, .unset, .unset, .unset, .unset, .unset, .unset] [(.int (1 : Int32))]) G
    refine Gl.via (fun _ k => XS.ifNo X0.here hx rfl (hb hby at_30) rfl ((if0 _ _).trans (feq (by decide)).1) k) ?_
    show Gl p.tables e below s₁ (mkF m 33 #[.val (.int p0), .val (.int p1), .val (.int p2), .val (.int p3), .val (.int p4), .val (.int p5), .val (.int (1 : Int32)), .val (.double (4463067230724161536 : UInt64)), .second, .unset, .unset, .unset, .unset, .unset, .unset, .unset, .unset, .unset, .unset, .unset, .unset, .unset, .unset, .unset, .unset] []) G
    refine Gl.via (fun _ k => X0.ldc2Long hx hown (mvT hZ (hw _ (List.mem_of_getElem? (i := 1) rfl))) (g := (mkF m 33 #[.val (.int p0), .val (.int p1), .val (.int p2), .val (.int p3), .val (.int p4), .val (.int p5), .val (.int (1 : Int32)), .val (.double (4463067230724161536 : UInt64)), .second, .unset, .unset, .unset, .unset, .unset, .unset, .unset, .unset, .unset, .unset, .unset, .unset, .unset, .unset, .unset, .unset] [])) rfl (hb hby at_33) _ k) ?_
    show Gl p.tables e below s₁ (mkF m 36 #[.val (.int p0), .val (.int p1), .val (.int p2), .val (.int p3), .val (.int p4), .val (.int p5), .val (.int (1 : Int32)), .val (.double (4463067230724161536 : UInt64)), .second, .unset, .unset, .unset, .unset, .unset, .unset, .unset, .unset, .unset, .unset, .unset, .unset, .unset, .unset, .unset, .unset] [(.long (4 : Int64))]) G
    refine Gl.via (fun _ k => XS.goto X0.here hx rfl (pc0 := 36) (pc' := 40) rfl (hb hby at_36) (by decide) (by decide) k) ?_
    show Gl p.tables e below s₁ (mkF m 40 #[.val (.int p0), .val (.int p1), .val (.int p2), .val (.int p3), .val (.int p4), .val (.int p5), .val (.int (1 : Int32)), .val (.double (4463067230724161536 : UInt64)), .second, .unset, .unset, .unset, .unset, .unset, .unset, .unset, .unset, .unset, .unset, .unset, .unset, .unset, .unset, .unset, .unset] [(.long (4 : Int64))]) G
    refine Gl.via (fun _ k => XS.lstore X0.here hx rfl (hb hby at_40) rfl (l' := #[.val (.int p0), .val (.int p1), .val (.int p2), .val (.int p3), .val (.int p4), .val (.int p5), .val (.int (1 : Int32)), .val (.double (4463067230724161536 : UInt64)), .second, .val (.long (4 : Int64)), .second, .unset, .unset, .unset, .unset, .unset, .unset, .unset, .unset, .unset, .unset, .unset, .unset, .unset, .unset]) rfl k) ?_
    show Gl p.tables e below s₁ (mkF m 42 #[.val (.int p0), .val (.int p1), .val (.int p2), .val (.int p3), .val (.int p4), .val (.int p5), .val (.int (1 : Int32)), .val (.double (4463067230724161536 : UInt64)), .second, .val (.long (4 : Int64)), .second, .unset, .unset, .unset, .unset, .unset, .unset, .unset, .unset, .unset, .unset, .unset, .unset, .unset, .unset] []) G
    refine Gl.via (fun _ k => XS.iloadN X0.here hx rfl (hb hby at_42) rfl k) ?_
    show Gl p.tables e below s₁ (mkF m 43 #[.val (.int p0), .val (.int p1), .val (.int p2), .val (.int p3), .val (.int p4), .val (.int p5), .val (.int (1 : Int32)), .val (.double (4463067230724161536 : UInt64)), .second, .val (.long (4 : Int64)), .second, .unset, .unset, .unset, .unset, .unset, .unset, .unset, .unset, .unset, .unset, .unset, .unset, .unset, .unset] [(.int p0)]) G
    refine Gl.via (fun _ k => XS.bipush X0.here hx rfl (hb hby at_43) k) ?_
    show Gl p.tables e below s₁ (mkF m 45 #[.val (.int p0), .val (.int p1), .val (.int p2), .val (.int p3), .val (.int p4), .val (.int p5), .val (.int (1 : Int32)), .val (.double (4463067230724161536 : UInt64)), .second, .val (.long (4 : Int64)), .second, .unset, .unset, .unset, .unset, .unset, .unset, .unset, .unset, .unset, .unset, .unset, .unset, .unset, .unset] [(.int (11 : Int32)), (.int p0)]) G
    refine Gl.via (fun _ k => XS.ishr X0.here hx rfl (hb hby at_45) rfl k) ?_
    show Gl p.tables e below s₁ (mkF m 46 #[.val (.int p0), .val (.int p1), .val (.int p2), .val (.int p3), .val (.int p4), .val (.int p5), .val (.int (1 : Int32)), .val (.double (4463067230724161536 : UInt64)), .second, .val (.long (4 : Int64)), .second, .unset, .unset, .unset, .unset, .unset, .unset, .unset, .unset, .unset, .unset, .unset, .unset, .unset, .unset] [(.int (p0 >>> ((11 : Int32) &&& 31)))]) G
    refine Gl.via (fun _ k => XS.i2l X0.here hx rfl (hb hby at_46) rfl k) ?_
    show Gl p.tables e below s₁ (mkF m 47 #[.val (.int p0), .val (.int p1), .val (.int p2), .val (.int p3), .val (.int p4), .val (.int p5), .val (.int (1 : Int32)), .val (.double (4463067230724161536 : UInt64)), .second, .val (.long (4 : Int64)), .second, .unset, .unset, .unset, .unset, .unset, .unset, .unset, .unset, .unset, .unset, .unset, .unset, .unset, .unset] [(.long ((p0 >>> ((11 : Int32) &&& 31)).toInt64))]) G
    refine Gl.via (fun _ k => XS.lstore X0.here hx rfl (hb hby at_47) rfl (l' := #[.val (.int p0), .val (.int p1), .val (.int p2), .val (.int p3), .val (.int p4), .val (.int p5), .val (.int (1 : Int32)), .val (.double (4463067230724161536 : UInt64)), .second, .val (.long (4 : Int64)), .second, .val (.long ((p0 >>> ((11 : Int32) &&& 31)).toInt64)), .second, .unset, .unset, .unset, .unset, .unset, .unset, .unset, .unset, .unset, .unset, .unset, .unset]) rfl k) ?_
    show Gl p.tables e below s₁ (mkF m 49 #[.val (.int p0), .val (.int p1), .val (.int p2), .val (.int p3), .val (.int p4), .val (.int p5), .val (.int (1 : Int32)), .val (.double (4463067230724161536 : UInt64)), .second, .val (.long (4 : Int64)), .second, .val (.long ((p0 >>> ((11 : Int32) &&& 31)).toInt64)), .second, .unset, .unset, .unset, .unset, .unset, .unset, .unset, .unset, .unset, .unset, .unset, .unset] []) G
    refine Gl.via (fun _ k => XS.lload X0.here hx rfl (hb hby at_49) rfl k) ?_
    show Gl p.tables e below s₁ (mkF m 51 #[.val (.int p0), .val (.int p1), .val (.int p2), .val (.int p3), .val (.int p4), .val (.int p5), .val (.int (1 : Int32)), .val (.double (4463067230724161536 : UInt64)), .second, .val (.long (4 : Int64)), .second, .val (.long ((p0 >>> ((11 : Int32) &&& 31)).toInt64)), .second, .unset, .unset, .unset, .unset, .unset, .unset, .unset, .unset, .unset, .unset, .unset, .unset] [(.long ((p0 >>> ((11 : Int32) &&& 31)).toInt64))]) G
    refine Gl.via (fun _ k => XS.iloadN X0.here hx rfl (hb hby at_51) rfl k) ?_
    show Gl p.tables e below s₁ (mkF m 52 #[.val (.int p0), .val (.int p1), .val (.int p2), .val (.int p3), .val (.int p4), .val (.int p5), .val (.int (1 : Int32)), .val (.double (4463067230724161536 : UInt64)), .second, .val (.long (4 : Int64)), .second, .val (.long ((p0 >>> ((11 : Int32) &&& 31)).toInt64)), .second, .unset, .unset, .unset, .unset, .unset, .unset, .unset, .unset, .unset, .unset, .unset, .unset] [(.int p1), (.long ((p0 >>> ((11 : Int32) &&& 31)).toInt64))]) G
    refine Gl.via (fun _ k => XS.bipush X0.here hx rfl (hb hby at_52) k) ?_
    show Gl p.tables e below s₁ (mkF m 54 #[.val (.int p0), .val (.int p1), .val (.int p2), .val (.int p3), .val (.int p4), .val (.int p5), .val (.int (1 : Int32)), .val (.double (4463067230724161536 : UInt64)), .second, .val (.long (4 : Int64)), .second, .val (.long ((p0 >>> ((11 : Int32) &&& 31)).toInt64)), .second, .unset, .unset, .unset, .unset, .unset, .unset, .unset, .unset, .unset, .unset, .unset, .unset] [(.int (15 : Int32)), (.int p1), (.long ((p0 >>> ((11 : Int32) &&& 31)).toInt64))]) G
    refine Gl.via (fun _ k => XS.iand X0.here hx rfl (hb hby at_54) rfl k) ?_
    show Gl p.tables e below s₁ (mkF m 55 #[.val (.int p0), .val (.int p1), .val (.int p2), .val (.int p3), .val (.int p4), .val (.int p5), .val (.int (1 : Int32)), .val (.double (4463067230724161536 : UInt64)), .second, .val (.long (4 : Int64)), .second, .val (.long ((p0 >>> ((11 : Int32) &&& 31)).toInt64)), .second, .unset, .unset, .unset, .unset, .unset, .unset, .unset, .unset, .unset, .unset, .unset, .unset] [(.int (p1 &&& (15 : Int32))), (.long ((p0 >>> ((11 : Int32) &&& 31)).toInt64))]) G
    refine Gl.via (fun _ k => XS.bipush X0.here hx rfl (hb hby at_55) k) ?_
    show Gl p.tables e below s₁ (mkF m 57 #[.val (.int p0), .val (.int p1), .val (.int p2), .val (.int p3), .val (.int p4), .val (.int p5), .val (.int (1 : Int32)), .val (.double (4463067230724161536 : UInt64)), .second, .val (.long (4 : Int64)), .second, .val (.long ((p0 >>> ((11 : Int32) &&& 31)).toInt64)), .second, .unset, .unset, .unset, .unset, .unset, .unset, .unset, .unset, .unset, .unset, .unset, .unset] [(.int (8 : Int32)), (.int (p1 &&& (15 : Int32))), (.long ((p0 >>> ((11 : Int32) &&& 31)).toInt64))]) G
    refine Gl.via (fun _ k => XS.isub X0.here hx rfl (hb hby at_57) rfl k) ?_
    show Gl p.tables e below s₁ (mkF m 58 #[.val (.int p0), .val (.int p1), .val (.int p2), .val (.int p3), .val (.int p4), .val (.int p5), .val (.int (1 : Int32)), .val (.double (4463067230724161536 : UInt64)), .second, .val (.long (4 : Int64)), .second, .val (.long ((p0 >>> ((11 : Int32) &&& 31)).toInt64)), .second, .unset, .unset, .unset, .unset, .unset, .unset, .unset, .unset, .unset, .unset, .unset, .unset] [(.int ((p1 &&& (15 : Int32)) - (8 : Int32))), (.long ((p0 >>> ((11 : Int32) &&& 31)).toInt64))]) G
    refine Gl.via (fun _ k => XS.i2l X0.here hx rfl (hb hby at_58) rfl k) ?_
    show Gl p.tables e below s₁ (mkF m 59 #[.val (.int p0), .val (.int p1), .val (.int p2), .val (.int p3), .val (.int p4), .val (.int p5), .val (.int (1 : Int32)), .val (.double (4463067230724161536 : UInt64)), .second, .val (.long (4 : Int64)), .second, .val (.long ((p0 >>> ((11 : Int32) &&& 31)).toInt64)), .second, .unset, .unset, .unset, .unset, .unset, .unset, .unset, .unset, .unset, .unset, .unset, .unset] [(.long (((p1 &&& (15 : Int32)) - (8 : Int32)).toInt64)), (.long ((p0 >>> ((11 : Int32) &&& 31)).toInt64))]) G
    refine Gl.via (fun _ k => XS.ladd X0.here hx rfl (hb hby at_59) rfl k) ?_
    show Gl p.tables e below s₁ (mkF m 60 #[.val (.int p0), .val (.int p1), .val (.int p2), .val (.int p3), .val (.int p4), .val (.int p5), .val (.int (1 : Int32)), .val (.double (4463067230724161536 : UInt64)), .second, .val (.long (4 : Int64)), .second, .val (.long ((p0 >>> ((11 : Int32) &&& 31)).toInt64)), .second, .unset, .unset, .unset, .unset, .unset, .unset, .unset, .unset, .unset, .unset, .unset, .unset] [(.long (((p0 >>> ((11 : Int32) &&& 31)).toInt64) + (((p1 &&& (15 : Int32)) - (8 : Int32)).toInt64)))]) G
    refine Gl.via (fun _ k => XS.lstore X0.here hx rfl (hb hby at_60) rfl (l' := #[.val (.int p0), .val (.int p1), .val (.int p2), .val (.int p3), .val (.int p4), .val (.int p5), .val (.int (1 : Int32)), .val (.double (4463067230724161536 : UInt64)), .second, .val (.long (4 : Int64)), .second, .val (.long ((p0 >>> ((11 : Int32) &&& 31)).toInt64)), .second, .val (.long (((p0 >>> ((11 : Int32) &&& 31)).toInt64) + (((p1 &&& (15 : Int32)) - (8 : Int32)).toInt64))), .second, .unset, .unset, .unset, .unset, .unset, .unset, .unset, .unset, .unset, .unset]) rfl k) ?_
    show Gl p.tables e below s₁ (mkF m 62 #[.val (.int p0), .val (.int p1), .val (.int p2), .val (.int p3), .val (.int p4), .val (.int p5), .val (.int (1 : Int32)), .val (.double (4463067230724161536 : UInt64)), .second, .val (.long (4 : Int64)), .second, .val (.long ((p0 >>> ((11 : Int32) &&& 31)).toInt64)), .second, .val (.long (((p0 >>> ((11 : Int32) &&& 31)).toInt64) + (((p1 &&& (15 : Int32)) - (8 : Int32)).toInt64))), .second, .unset, .unset, .unset, .unset, .unset, .unset, .unset, .unset, .unset, .unset] []) G
    refine Gl.via (fun _ k => XS.iloadN X0.here hx rfl (hb hby at_62) rfl k) ?_
    show Gl p.tables e below s₁ (mkF m 63 #[.val (.int p0), .val (.int p1), .val (.int p2), .val (.int p3), .val (.int p4), .val (.int p5), .val (.int (1 : Int32)), .val (.double (4463067230724161536 : UInt64)), .second, .val (.long (4 : Int64)), .second, .val (.long ((p0 >>> ((11 : Int32) &&& 31)).toInt64)), .second, .val (.long (((p0 >>> ((11 : Int32) &&& 31)).toInt64) + (((p1 &&& (15 : Int32)) - (8 : Int32)).toInt64))), .second, .unset, .unset, .unset, .unset, .unset, .unset, .unset, .unset, .unset, .unset] [(.int p2)]) G
    refine Gl.via (fun _ k => XS.bipush X0.here hx rfl (hb hby at_63) k) ?_
    show Gl p.tables e below s₁ (mkF m 65 #[.val (.int p0), .val (.int p1), .val (.int p2), .val (.int p3), .val (.int p4), .val (.int p5), .val (.int (1 : Int32)), .val (.double (4463067230724161536 : UInt64)), .second, .val (.long (4 : Int64)), .second, .val (.long ((p0 >>> ((11 : Int32) &&& 31)).toInt64)), .second, .val (.long (((p0 >>> ((11 : Int32) &&& 31)).toInt64) + (((p1 &&& (15 : Int32)) - (8 : Int32)).toInt64))), .second, .unset, .unset, .unset, .unset, .unset, .unset, .unset, .unset, .unset, .unset] [(.int (11 : Int32)), (.int p2)]) G
    refine Gl.via (fun _ k => XS.ishr X0.here hx rfl (hb hby at_65) rfl k) ?_
    show Gl p.tables e below s₁ (mkF m 66 #[.val (.int p0), .val (.int p1), .val (.int p2), .val (.int p3), .val (.int p4), .val (.int p5), .val (.int (1 : Int32)), .val (.double (4463067230724161536 : UInt64)), .second, .val (.long (4 : Int64)), .second, .val (.long ((p0 >>> ((11 : Int32) &&& 31)).toInt64)), .second, .val (.long (((p0 >>> ((11 : Int32) &&& 31)).toInt64) + (((p1 &&& (15 : Int32)) - (8 : Int32)).toInt64))), .second, .unset, .unset, .unset, .unset, .unset, .unset, .unset, .unset, .unset, .unset] [(.int (p2 >>> ((11 : Int32) &&& 31)))]) G
    refine Gl.via (fun _ k => XS.i2l X0.here hx rfl (hb hby at_66) rfl k) ?_
    show Gl p.tables e below s₁ (mkF m 67 #[.val (.int p0), .val (.int p1), .val (.int p2), .val (.int p3), .val (.int p4), .val (.int p5), .val (.int (1 : Int32)), .val (.double (4463067230724161536 : UInt64)), .second, .val (.long (4 : Int64)), .second, .val (.long ((p0 >>> ((11 : Int32) &&& 31)).toInt64)), .second, .val (.long (((p0 >>> ((11 : Int32) &&& 31)).toInt64) + (((p1 &&& (15 : Int32)) - (8 : Int32)).toInt64))), .second, .unset, .unset, .unset, .unset, .unset, .unset, .unset, .unset, .unset, .unset] [(.long ((p2 >>> ((11 : Int32) &&& 31)).toInt64))]) G
    refine Gl.via (fun _ k => XS.lstore X0.here hx rfl (hb hby at_67) rfl (l' := #[.val (.int p0), .val (.int p1), .val (.int p2), .val (.int p3), .val (.int p4), .val (.int p5), .val (.int (1 : Int32)), .val (.double (4463067230724161536 : UInt64)), .second, .val (.long (4 : Int64)), .second, .val (.long ((p0 >>> ((11 : Int32) &&& 31)).toInt64)), .second, .val (.long (((p0 >>> ((11 : Int32) &&& 31)).toInt64) + (((p1 &&& (15 : Int32)) - (8 : Int32)).toInt64))), .second, .val (.long ((p2 >>> ((11 : Int32) &&& 31)).toInt64)), .second, .unset, .unset, .unset, .unset, .unset, .unset, .unset, .unset]) rfl k) ?_
    show Gl p.tables e below s₁ (mkF m 69 #[.val (.int p0), .val (.int p1), .val (.int p2), .val (.int p3), .val (.int p4), .val (.int p5), .val (.int (1 : Int32)), .val (.double (4463067230724161536 : UInt64)), .second, .val (.long (4 : Int64)), .second, .val (.long ((p0 >>> ((11 : Int32) &&& 31)).toInt64)), .second, .val (.long (((p0 >>> ((11 : Int32) &&& 31)).toInt64) + (((p1 &&& (15 : Int32)) - (8 : Int32)).toInt64))), .second, .val (.long ((p2 >>> ((11 : Int32) &&& 31)).toInt64)), .second, .unset, .unset, .unset, .unset, .unset, .unset, .unset, .unset] []) G
    refine Gl.via (fun _ k => XS.lload X0.here hx rfl (hb hby at_69) rfl k) ?_
    show Gl p.tables e below s₁ (mkF m 71 #[.val (.int p0), .val (.int p1), .val (.int p2), .val (.int p3), .val (.int p4), .val (.int p5), .val (.int (1 : Int32)), .val (.double (4463067230724161536 : UInt64)), .second, .val (.long (4 : Int64)), .second, .val (.long ((p0 >>> ((11 : Int32) &&& 31)).toInt64)), .second, .val (.long (((p0 >>> ((11 : Int32) &&& 31)).toInt64) + (((p1 &&& (15 : Int32)) - (8 : Int32)).toInt64))), .second, .val (.long ((p2 >>> ((11 : Int32) &&& 31)).toInt64)), .second, .unset, .unset, .unset, .unset, .unset, .unset, .unset, .unset] [(.long ((p2 >>> ((11 : Int32) &&& 31)).toInt64))]) G
    refine Gl.via (fun _ k => XS.iloadN X0.here hx rfl (hb hby at_71) rfl k) ?_
    show Gl p.tables e below s₁ (mkF m 72 #[.val (.int p0), .val (.int p1), .val (.int p2), .val (.int p3), .val (.int p4), .val (.int p5), .val (.int (1 : Int32)), .val (.double (4463067230724161536 : UInt64)), .second, .val (.long (4 : Int64)), .second, .val (.long ((p0 >>> ((11 : Int32) &&& 31)).toInt64)), .second, .val (.long (((p0 >>> ((11 : Int32) &&& 31)).toInt64) + (((p1 &&& (15 : Int32)) - (8 : Int32)).toInt64))), .second, .val (.long ((p2 >>> ((11 : Int32) &&& 31)).toInt64)), .second, .unset, .unset, .unset, .unset, .unset, .unset, .unset, .unset] [(.int p3), (.long ((p2 >>> ((11 : Int32) &&& 31)).toInt64))]) G
    refine Gl.via (fun _ k => XS.bipush X0.here hx rfl (hb hby at_72) k) ?_
    show Gl p.tables e below s₁ (mkF m 74 #[.val (.int p0), .val (.int p1), .val (.int p2), .val (.int p3), .val (.int p4), .val (.int p5), .val (.int (1 : Int32)), .val (.double (4463067230724161536 : UInt64)), .second, .val (.long (4 : Int64)), .second, .val (.long ((p0 >>> ((11 : Int32) &&& 31)).toInt64)), .second, .val (.long (((p0 >>> ((11 : Int32) &&& 31)).toInt64) + (((p1 &&& (15 : Int32)) - (8 : Int32)).toInt64))), .second, .val (.long ((p2 >>> ((11 : Int32) &&& 31)).toInt64)), .second, .unset, .unset, .unset, .unset, .unset, .unset, .unset, .unset] [(.int (31 : Int32)), (.int p3), (.long ((p2 >>> ((11 : Int32) &&& 31)).toInt64))]) G
    refine Gl.via (fun _ k => XS.iand X0.here hx rfl (hb hby at_74) rfl k) ?_
    show Gl p.tables e below s₁ (mkF m 75 #[.val (.int p0), .val (.int p1), .val (.int p2), .val (.int p3), .val (.int p4), .val (.int p5), .val (.int (1 : Int32)), .val (.double (4463067230724161536 : UInt64)), .second, .val (.long (4 : Int64)), .second, .val (.long ((p0 >>> ((11 : Int32) &&& 31)).toInt64)), .second, .val (.long (((p0 >>> ((11 : Int32) &&& 31)).toInt64) + (((p1 &&& (15 : Int32)) - (8 : Int32)).toInt64))), .second, .val (.long ((p2 >>> ((11 : Int32) &&& 31)).toInt64)), .second, .unset, .unset, .unset, .unset, .unset, .unset, .unset, .unset] [(.int (p3 &&& (31 : Int32))), (.long ((p2 >>> ((11 : Int32) &&& 31)).toInt64))]) G
    refine Gl.via (fun _ k => XS.bipush X0.here hx rfl (hb hby at_75) k) ?_
    show Gl p.tables e below s₁ (mkF m 77 #[.val (.int p0), .val (.int p1), .val (.int p2), .val (.int p3), .val (.int p4), .val (.int p5), .val (.int (1 : Int32)), .val (.double (4463067230724161536 : UInt64)), .second, .val (.long (4 : Int64)), .second, .val (.long ((p0 >>> ((11 : Int32) &&& 31)).toInt64)), .second, .val (.long (((p0 >>> ((11 : Int32) &&& 31)).toInt64) + (((p1 &&& (15 : Int32)) - (8 : Int32)).toInt64))), .second, .val (.long ((p2 >>> ((11 : Int32) &&& 31)).toInt64)), .second, .unset, .unset, .unset, .unset, .unset, .unset, .unset, .unset] [(.int (16 : Int32)), (.int (p3 &&& (31 : Int32))), (.long ((p2 >>> ((11 : Int32) &&& 31)).toInt64))]) G
    refine Gl.via (fun _ k => XS.isub X0.here hx rfl (hb hby at_77) rfl k) ?_
    show Gl p.tables e below s₁ (mkF m 78 #[.val (.int p0), .val (.int p1), .val (.int p2), .val (.int p3), .val (.int p4), .val (.int p5), .val (.int (1 : Int32)), .val (.double (4463067230724161536 : UInt64)), .second, .val (.long (4 : Int64)), .second, .val (.long ((p0 >>> ((11 : Int32) &&& 31)).toInt64)), .second, .val (.long (((p0 >>> ((11 : Int32) &&& 31)).toInt64) + (((p1 &&& (15 : Int32)) - (8 : Int32)).toInt64))), .second, .val (.long ((p2 >>> ((11 : Int32) &&& 31)).toInt64)), .second, .unset, .unset, .unset, .unset, .unset, .unset, .unset, .unset] [(.int ((p3 &&& (31 : Int32)) - (16 : Int32))), (.long ((p2 >>> ((11 : Int32) &&& 31)).toInt64))]) G
    refine Gl.via (fun _ k => XS.i2l X0.here hx rfl (hb hby at_78) rfl k) ?_
    show Gl p.tables e below s₁ (mkF m 79 #[.val (.int p0), .val (.int p1), .val (.int p2), .val (.int p3), .val (.int p4), .val (.int p5), .val (.int (1 : Int32)), .val (.double (4463067230724161536 : UInt64)), .second, .val (.long (4 : Int64)), .second, .val (.long ((p0 >>> ((11 : Int32) &&& 31)).toInt64)), .second, .val (.long (((p0 >>> ((11 : Int32) &&& 31)).toInt64) + (((p1 &&& (15 : Int32)) - (8 : Int32)).toInt64))), .second, .val (.long ((p2 >>> ((11 : Int32) &&& 31)).toInt64)), .second, .unset, .unset, .unset, .unset, .unset, .unset, .unset, .unset] [(.long (((p3 &&& (31 : Int32)) - (16 : Int32)).toInt64)), (.long ((p2 >>> ((11 : Int32) &&& 31)).toInt64))]) G
    refine Gl.via (fun _ k => XS.ladd X0.here hx rfl (hb hby at_79) rfl k) ?_
    show Gl p.tables e below s₁ (mkF m 80 #[.val (.int p0), .val (.int p1), .val (.int p2), .val (.int p3), .val (.int p4), .val (.int p5), .val (.int (1 : Int32)), .val (.double (4463067230724161536 : UInt64)), .second, .val (.long (4 : Int64)), .second, .val (.long ((p0 >>> ((11 : Int32) &&& 31)).toInt64)), .second, .val (.long (((p0 >>> ((11 : Int32) &&& 31)).toInt64) + (((p1 &&& (15 : Int32)) - (8 : Int32)).toInt64))), .second, .val (.long ((p2 >>> ((11 : Int32) &&& 31)).toInt64)), .second, .unset, .unset, .unset, .unset, .unset, .unset, .unset, .unset] [(.long (((p2 >>> ((11 : Int32) &&& 31)).toInt64) + (((p3 &&& (31 : Int32)) - (16 : Int32)).toInt64)))]) G
    refine Gl.via (fun _ k => XS.lstore X0.here hx rfl (hb hby at_80) rfl (l' := #[.val (.int p0), .val (.int p1), .val (.int p2), .val (.int p3), .val (.int p4), .val (.int p5), .val (.int (1 : Int32)), .val (.double (4463067230724161536 : UInt64)), .second, .val (.long (4 : Int64)), .second, .val (.long ((p0 >>> ((11 : Int32) &&& 31)).toInt64)), .second, .val (.long (((p0 >>> ((11 : Int32) &&& 31)).toInt64) + (((p1 &&& (15 : Int32)) - (8 : Int32)).toInt64))), .second, .val (.long ((p2 >>> ((11 : Int32) &&& 31)).toInt64)), .second, .val (.long (((p2 >>> ((11 : Int32) &&& 31)).toInt64) + (((p3 &&& (31 : Int32)) - (16 : Int32)).toInt64))), .second, .unset, .unset, .unset, .unset, .unset, .unset]) rfl k) ?_
    show Gl p.tables e below s₁ (mkF m 82 #[.val (.int p0), .val (.int p1), .val (.int p2), .val (.int p3), .val (.int p4), .val (.int p5), .val (.int (1 : Int32)), .val (.double (4463067230724161536 : UInt64)), .second, .val (.long (4 : Int64)), .second, .val (.long ((p0 >>> ((11 : Int32) &&& 31)).toInt64)), .second, .val (.long (((p0 >>> ((11 : Int32) &&& 31)).toInt64) + (((p1 &&& (15 : Int32)) - (8 : Int32)).toInt64))), .second, .val (.long ((p2 >>> ((11 : Int32) &&& 31)).toInt64)), .second, .val (.long (((p2 >>> ((11 : Int32) &&& 31)).toInt64) + (((p3 &&& (31 : Int32)) - (16 : Int32)).toInt64))), .second, .unset, .unset, .unset, .unset, .unset, .unset] []) G
    refine Gl.via (fun _ k => XS.iload X0.here hx rfl (hb hby at_82) rfl k) ?_
    show Gl p.tables e below s₁ (mkF m 84 #[.val (.int p0), .val (.int p1), .val (.int p2), .val (.int p3), .val (.int p4), .val (.int p5), .val (.int (1 : Int32)), .val (.double (4463067230724161536 : UInt64)), .second, .val (.long (4 : Int64)), .second, .val (.long ((p0 >>> ((11 : Int32) &&& 31)).toInt64)), .second, .val (.long (((p0 >>> ((11 : Int32) &&& 31)).toInt64) + (((p1 &&& (15 : Int32)) - (8 : Int32)).toInt64))), .second, .val (.long ((p2 >>> ((11 : Int32) &&& 31)).toInt64)), .second, .val (.long (((p2 >>> ((11 : Int32) &&& 31)).toInt64) + (((p3 &&& (31 : Int32)) - (16 : Int32)).toInt64))), .second, .unset, .unset, .unset, .unset, .unset, .unset] [(.int p4)]) G
    refine Gl.via (fun _ k => XS.bipush X0.here hx rfl (hb hby at_84) k) ?_
    show Gl p.tables e below s₁ (mkF m 86 #[.val (.int p0), .val (.int p1), .val (.int p2), .val (.int p3), .val (.int p4), .val (.int p5), .val (.int (1 : Int32)), .val (.double (4463067230724161536 : UInt64)), .second, .val (.long (4 : Int64)), .second, .val (.long ((p0 >>> ((11 : Int32) &&& 31)).toInt64)), .second, .val (.long (((p0 >>> ((11 : Int32) &&& 31)).toInt64) + (((p1 &&& (15 : Int32)) - (8 : Int32)).toInt64))), .second, .val (.long ((p2 >>> ((11 : Int32) &&& 31)).toInt64)), .second, .val (.long (((p2 >>> ((11 : Int32) &&& 31)).toInt64) + (((p3 &&& (31 : Int32)) - (16 : Int32)).toInt64))), .second, .unset, .unset, .unset, .unset, .unset, .unset] [(.int (15 : Int32)), (.int p4)]) G
    refine Gl.via (fun _ k => XS.iand X0.here hx rfl (hb hby at_86) rfl k) ?_
    show Gl p.tables e below s₁ (mkF m 87 #[.val (.int p0), .val (.int p1), .val (.int p2), .val (.int p3), .val (.int p4), .val (.int p5), .val (.int (1 : Int32)), .val (.double (4463067230724161536 : UInt64)), .second, .val (.long (4 : Int64)), .second, .val (.long ((p0 >>> ((11 : Int32) &&& 31)).toInt64)), .second, .val (.long (((p0 >>> ((11 : Int32) &&& 31)).toInt64) + (((p1 &&& (15 : Int32)) - (8 : Int32)).toInt64))), .second, .val (.long ((p2 >>> ((11 : Int32) &&& 31)).toInt64)), .second, .val (.long (((p2 >>> ((11 : Int32) &&& 31)).toInt64) + (((p3 &&& (31 : Int32)) - (16 : Int32)).toInt64))), .second, .unset, .unset, .unset, .unset, .unset, .unset] [(.int (p4 &&& (15 : Int32)))]) G
    refine Gl.via (fun _ k => XS.bipush X0.here hx rfl (hb hby at_87) k) ?_
    show Gl p.tables e below s₁ (mkF m 89 #[.val (.int p0), .val (.int p1), .val (.int p2), .val (.int p3), .val (.int p4), .val (.int p5), .val (.int (1 : Int32)), .val (.double (4463067230724161536 : UInt64)), .second, .val (.long (4 : Int64)), .second, .val (.long ((p0 >>> ((11 : Int32) &&& 31)).toInt64)), .second, .val (.long (((p0 >>> ((11 : Int32) &&& 31)).toInt64) + (((p1 &&& (15 : Int32)) - (8 : Int32)).toInt64))), .second, .val (.long ((p2 >>> ((11 : Int32) &&& 31)).toInt64)), .second, .val (.long (((p2 >>> ((11 : Int32) &&& 31)).toInt64) + (((p3 &&& (31 : Int32)) - (16 : Int32)).toInt64))), .second, .unset, .unset, .unset, .unset, .unset, .unset] [(.int (8 : Int32)), (.int (p4 &&& (15 : Int32)))]) G
    refine Gl.via (fun _ k => XS.isub X0.here hx rfl (hb hby at_89) rfl k) ?_
    show Gl p.tables e below s₁ (mkF m 90 #[.val (.int p0), .val (.int p1), .val (.int p2), .val (.int p3), .val (.int p4), .val (.int p5), .val (.int (1 : Int32)), .val (.double (4463067230724161536 : UInt64)), .second, .val (.long (4 : Int64)), .second, .val (.long ((p0 >>> ((11 : Int32) &&& 31)).toInt64)), .second, .val (.long (((p0 >>> ((11 : Int32) &&& 31)).toInt64) + (((p1 &&& (15 : Int32)) - (8 : Int32)).toInt64))), .second, .val (.long ((p2 >>> ((11 : Int32) &&& 31)).toInt64)), .second, .val (.long (((p2 >>> ((11 : Int32) &&& 31)).toInt64) + (((p3 &&& (31 : Int32)) - (16 : Int32)).toInt64))), .second, .unset, .unset, .unset, .unset, .unset, .unset] [(.int ((p4 &&& (15 : Int32)) - (8 : Int32)))]) G
    refine Gl.via (fun _ k => XS.i2l X0.here hx rfl (hb hby at_90) rfl k) ?_
    show Gl p.tables e below s₁ (mkF m 91 #[.val (.int p0), .val (.int p1), .val (.int p2), .val (.int p3), .val (.int p4), .val (.int p5), .val (.int (1 : Int32)), .val (.double (4463067230724161536 : UInt64)), .second, .val (.long (4 : Int64)), .second, .val (.long ((p0 >>> ((11 : Int32) &&& 31)).toInt64)), .second, .val (.long (((p0 >>> ((11 : Int32) &&& 31)).toInt64) + (((p1 &&& (15 : Int32)) - (8 : Int32)).toInt64))), .second, .val (.long ((p2 >>> ((11 : Int32) &&& 31)).toInt64)), .second, .val (.long (((p2 >>> ((11 : Int32) &&& 31)).toInt64) + (((p3 &&& (31 : Int32)) - (16 : Int32)).toInt64))), .second, .unset, .unset, .unset, .unset, .unset, .unset] [(.long (((p4 &&& (15 : Int32)) - (8 : Int32)).toInt64))]) G
    refine Gl.via (fun _ k => XS.lstore X0.here hx rfl (hb hby at_91) rfl (l' := #[.val (.int p0), .val (.int p1), .val (.int p2), .val (.int p3), .val (.int p4), .val (.int p5), .val (.int (1 : Int32)), .val (.double (4463067230724161536 : UInt64)), .second, .val (.long (4 : Int64)), .second, .val (.long ((p0 >>> ((11 : Int32) &&& 31)).toInt64)), .second, .val (.long (((p0 >>> ((11 : Int32) &&& 31)).toInt64) + (((p1 &&& (15 : Int32)) - (8 : Int32)).toInt64))), .second, .val (.long ((p2 >>> ((11 : Int32) &&& 31)).toInt64)), .second, .val (.long (((p2 >>> ((11 : Int32) &&& 31)).toInt64) + (((p3 &&& (31 : Int32)) - (16 : Int32)).toInt64))), .second, .val (.long (((p4 &&& (15 : Int32)) - (8 : Int32)).toInt64)), .second, .unset, .unset, .unset, .unset]) rfl k) ?_
    show Gl p.tables e below s₁ (mkF m 93 #[.val (.int p0), .val (.int p1), .val (.int p2), .val (.int p3), .val (.int p4), .val (.int p5), .val (.int (1 : Int32)), .val (.double (4463067230724161536 : UInt64)), .second, .val (.long (4 : Int64)), .second, .val (.long ((p0 >>> ((11 : Int32) &&& 31)).toInt64)), .second, .val (.long (((p0 >>> ((11 : Int32) &&& 31)).toInt64) + (((p1 &&& (15 : Int32)) - (8 : Int32)).toInt64))), .second, .val (.long ((p2 >>> ((11 : Int32) &&& 31)).toInt64)), .second, .val (.long (((p2 >>> ((11 : Int32) &&& 31)).toInt64) + (((p3 &&& (31 : Int32)) - (16 : Int32)).toInt64))), .second, .val (.long (((p4 &&& (15 : Int32)) - (8 : Int32)).toInt64)), .second, .unset, .unset, .unset, .unset] []) G
    have hB0 := own_b p0
    have hT0 := own_b p2
    have hA : OwnS (((p0 >>> ((11 : Int32) &&& 31)).toInt64) + (((p1 &&& (15 : Int32)) - (8 : Int32)).toInt64)) := own_add hB0 (by have := own_d15 p1; omega)
    have hB : OwnS ((p0 >>> ((11 : Int32) &&& 31)).toInt64) := by have := hB0; show -2097152 ≤ _ ∧ _ ≤ 2097152; omega
    have hTA : OwnS (((p2 >>> ((11 : Int32) &&& 31)).toInt64) + (((p3 &&& (31 : Int32)) - (16 : Int32)).toInt64)) := own_add hT0 (own_d31 p3)
    have hTB : OwnS ((p2 >>> ((11 : Int32) &&& 31)).toInt64) := by have := hT0; show -2097152 ≤ _ ∧ _ ≤ 2097152; omega
    have hC : OwnS (((p4 &&& (15 : Int32)) - (8 : Int32)).toInt64) := by have := own_d15 p4; show -2097152 ≤ _ ∧ _ ≤ 2097152; omega
    clear hB0 hT0
    generalize (((p0 >>> ((11 : Int32) &&& 31)).toInt64) + (((p1 &&& (15 : Int32)) - (8 : Int32)).toInt64)) = va at *
    generalize (((p2 >>> ((11 : Int32) &&& 31)).toInt64) + (((p3 &&& (31 : Int32)) - (16 : Int32)).toInt64)) = vt at *
    generalize ((p0 >>> ((11 : Int32) &&& 31)).toInt64) = vb at *
    generalize ((p2 >>> ((11 : Int32) &&& 31)).toInt64) = vu at *
    generalize (((p4 &&& (15 : Int32)) - (8 : Int32)).toInt64) = vc at *
    show Gl p.tables e below s₁ (mkF m 93 #[.val (.int p0), .val (.int p1), .val (.int p2), .val (.int p3), .val (.int p4), .val (.int p5), .val (.int (1 : Int32)), .val (.double (4463067230724161536 : UInt64)), .second, .val (.long (4 : Int64)), .second, .val (.long vb), .second, .val (.long va), .second, .val (.long vu), .second, .val (.long vt), .second, .val (.long vc), .second, .unset, .unset, .unset, .unset] []) G
    obtain ⟨T44, h44, X44, e44, E44, A44, D44, -, st44⟩ := newO X0 hx hZ hown (hw _ (List.mem_of_getElem? (i := 2) rfl)) (hw _ (List.mem_of_getElem? (i := 3) rfl)) (hw _ (List.mem_of_getElem? (i := 4) rfl)) e0 (g := (mkF m 93 #[.val (.int p0), .val (.int p1), .val (.int p2), .val (.int p3), .val (.int p4), .val (.int p5), .val (.int (1 : Int32)), .val (.double (4463067230724161536 : UInt64)), .second, .val (.long (4 : Int64)), .second, .val (.long vb), .second, .val (.long va), .second, .val (.long vu), .second, .val (.long vt), .second, .val (.long vc), .second, .unset, .unset, .unset, .unset] [])) rfl (hb hby at_93) (by decide) (by decide)
    obtain ⟨b44, g44⟩ : ∃ z, z = h0.size := ⟨_, rfl⟩
    rw [← g44] at A44 D44 st44
    have ge45 : n0 ≤ b44 := Nat.le_trans Z0 (Nat.le_of_eq g44.symm)
    have gz46 : h0.size ≤ b44 := Nat.le_trans (Nat.le_refl h0.size) (Nat.le_of_eq g44.symm)
    refine Gl.via st44 ?_
    have Z47 : n0 ≤ h44.size := Nat.le_trans Z0 E44.1
    have Y48 : h0.size ≤ h44.size := Nat.le_trans (Nat.le_refl h0.size) E44.1
    have F49 : Fld Z h44 b44 "com/example/sortie/sortie/solver/Cost" "value" "D" (.double (0 : UInt64)) := D44 (Or.inr (hw _ (List.mem_of_getElem? (i := 17) rfl))) (ty := .double) (by decide)
    have F50 : Fld Z h44 b44 "com/example/sortie/sortie/solver/Cost" "tieBreak" "D" (.double (0 : UInt64)) := D44 (Or.inr (hw _ (List.mem_of_getElem? (i := 19) rfl))) (ty := .double) (by decide)
    show Gl p.tables e below T44 (mkF m 96 #[.val (.int p0), .val (.int p1), .val (.int p2), .val (.int p3), .val (.int p4), .val (.int p5), .val (.int (1 : Int32)), .val (.double (4463067230724161536 : UInt64)), .second, .val (.long (4 : Int64)), .second, .val (.long vb), .second, .val (.long va), .second, .val (.long vu), .second, .val (.long vt), .second, .val (.long vc), .second, .unset, .unset, .unset, .unset] [(.ref b44)]) G
    refine Gl.via (fun _ k => XS.dup X44.here hx rfl (hb hby at_96) rfl rfl k) ?_
    show Gl p.tables e below T44 (mkF m 97 #[.val (.int p0), .val (.int p1), .val (.int p2), .val (.int p3), .val (.int p4), .val (.int p5), .val (.int (1 : Int32)), .val (.double (4463067230724161536 : UInt64)), .second, .val (.long (4 : Int64)), .second, .val (.long vb), .second, .val (.long va), .second, .val (.long vu), .second, .val (.long vt), .second, .val (.long vc), .second, .unset, .unset, .unset, .unset] [(.ref b44), (.ref b44)]) G
    refine Gl.via (fun _ k => XS.lload X44.here hx rfl (hb hby at_97) rfl k) ?_
    show Gl p.tables e below T44 (mkF m 99 #[.val (.int p0), .val (.int p1), .val (.int p2), .val (.int p3), .val (.int p4), .val (.int p5), .val (.int (1 : Int32)), .val (.double (4463067230724161536 : UInt64)), .second, .val (.long (4 : Int64)), .second, .val (.long vb), .second, .val (.long va), .second, .val (.long vu), .second, .val (.long vt), .second, .val (.long vc), .second, .unset, .unset, .unset, .unset] [(.long va), (.ref b44), (.ref b44)]) G
    refine Gl.via (fun _ k => XS.l2dS X44.here hx rfl (hb hby at_99) rfl rfl k) ?_
    show Gl p.tables e below T44 (mkF m 100 #[.val (.int p0), .val (.int p1), .val (.int p2), .val (.int p3), .val (.int p4), .val (.int p5), .val (.int (1 : Int32)), .val (.double (4463067230724161536 : UInt64)), .second, .val (.long (4 : Int64)), .second, .val (.long vb), .second, .val (.long va), .second, .val (.long vu), .second, .val (.long vt), .second, .val (.long vc), .second, .unset, .unset, .unset, .unset] [(.double (FP.l2d va)), (.ref b44), (.ref b44)]) G
    refine Gl.via (fun _ k => XS.dload X44.here hx rfl (hb hby at_100) rfl k) ?_
    show Gl p.tables e below T44 (mkF m 102 #[.val (.int p0), .val (.int p1), .val (.int p2), .val (.int p3), .val (.int p4), .val (.int p5), .val (.int (1 : Int32)), .val (.double (4463067230724161536 : UInt64)), .second, .val (.long (4 : Int64)), .second, .val (.long vb), .second, .val (.long va), .second, .val (.long vu), .second, .val (.long vt), .second, .val (.long vc), .second, .unset, .unset, .unset, .unset] [(.double (4463067230724161536 : UInt64)), (.double (FP.l2d va)), (.ref b44), (.ref b44)]) G
    refine Gl.via (fun _ k => XS.dmulS X44.here hx rfl (hb hby at_102) rfl (dmul_out (l2d_fin _) own_unit_fin) rfl k) ?_
    show Gl p.tables e below T44 (mkF m 103 #[.val (.int p0), .val (.int p1), .val (.int p2), .val (.int p3), .val (.int p4), .val (.int p5), .val (.int (1 : Int32)), .val (.double (4463067230724161536 : UInt64)), .second, .val (.long (4 : Int64)), .second, .val (.long vb), .second, .val (.long va), .second, .val (.long vu), .second, .val (.long vt), .second, .val (.long vc), .second, .unset, .unset, .unset, .unset] [(.double (FP.dmul (FP.l2d va) (4463067230724161536 : UInt64))), (.ref b44), (.ref b44)]) G
    refine Gl.via (fun _ k => XS.lload X44.here hx rfl (hb hby at_103) rfl k) ?_
    show Gl p.tables e below T44 (mkF m 105 #[.val (.int p0), .val (.int p1), .val (.int p2), .val (.int p3), .val (.int p4), .val (.int p5), .val (.int (1 : Int32)), .val (.double (4463067230724161536 : UInt64)), .second, .val (.long (4 : Int64)), .second, .val (.long vb), .second, .val (.long va), .second, .val (.long vu), .second, .val (.long vt), .second, .val (.long vc), .second, .unset, .unset, .unset, .unset] [(.long vt), (.double (FP.dmul (FP.l2d va) (4463067230724161536 : UInt64))), (.ref b44), (.ref b44)]) G
    refine Gl.via (fun _ k => XS.l2dS X44.here hx rfl (hb hby at_105) rfl rfl k) ?_
    show Gl p.tables e below T44 (mkF m 106 #[.val (.int p0), .val (.int p1), .val (.int p2), .val (.int p3), .val (.int p4), .val (.int p5), .val (.int (1 : Int32)), .val (.double (4463067230724161536 : UInt64)), .second, .val (.long (4 : Int64)), .second, .val (.long vb), .second, .val (.long va), .second, .val (.long vu), .second, .val (.long vt), .second, .val (.long vc), .second, .unset, .unset, .unset, .unset] [(.double (FP.l2d vt)), (.double (FP.dmul (FP.l2d va) (4463067230724161536 : UInt64))), (.ref b44), (.ref b44)]) G
    refine Gl.via (fun _ k => XS.dload X44.here hx rfl (hb hby at_106) rfl k) ?_
    show Gl p.tables e below T44 (mkF m 108 #[.val (.int p0), .val (.int p1), .val (.int p2), .val (.int p3), .val (.int p4), .val (.int p5), .val (.int (1 : Int32)), .val (.double (4463067230724161536 : UInt64)), .second, .val (.long (4 : Int64)), .second, .val (.long vb), .second, .val (.long va), .second, .val (.long vu), .second, .val (.long vt), .second, .val (.long vc), .second, .unset, .unset, .unset, .unset] [(.double (4463067230724161536 : UInt64)), (.double (FP.l2d vt)), (.double (FP.dmul (FP.l2d va) (4463067230724161536 : UInt64))), (.ref b44), (.ref b44)]) G
    refine Gl.via (fun _ k => XS.dmulS X44.here hx rfl (hb hby at_108) rfl (dmul_out (l2d_fin _) own_unit_fin) rfl k) ?_
    show Gl p.tables e below T44 (mkF m 109 #[.val (.int p0), .val (.int p1), .val (.int p2), .val (.int p3), .val (.int p4), .val (.int p5), .val (.int (1 : Int32)), .val (.double (4463067230724161536 : UInt64)), .second, .val (.long (4 : Int64)), .second, .val (.long vb), .second, .val (.long va), .second, .val (.long vu), .second, .val (.long vt), .second, .val (.long vc), .second, .unset, .unset, .unset, .unset] [(.double (FP.dmul (FP.l2d vt) (4463067230724161536 : UInt64))), (.double (FP.dmul (FP.l2d va) (4463067230724161536 : UInt64))), (.ref b44), (.ref b44)]) G
    obtain ⟨_, _, ⟨T51, L51, k51, n51⟩, -, X51, ⟨Lc51, hQ51, l51, y51, z51⟩, st51⟩ := X44.specialBack hx (y := (⟨"com/example/sortie/sortie/solver/Cost", "<init>", "(DD)V"⟩ : MethodName)) rfl hown (mvT hZ (hw _ (List.mem_of_getElem? (i := 5) rfl))) (mvT hZ (hw _ (List.mem_of_getElem? (i := 6) rfl))) (mvT hZ (hw _ (List.mem_of_getElem? (i := 7) rfl))) (by decide) (backOf (W := 1) (c_init l Z a0 hw [] b44 (FP.dmul (FP.l2d va) (4463067230724161536 : UInt64)) (FP.dmul (FP.l2d vt) (4463067230724161536 : UInt64)) (.double (0 : UInt64)) (.double (0 : UInt64)) h44 n0 Z47 A44 F49 F50 ge45) hZ (hw _ (List.mem_of_getElem? (i := 7) rfl)) (hw _ (List.mem_of_getElem? (i := 4) rfl)) (by decide) (by decide)) (g := (mkF m 109 #[.val (.int p0), .val (.int p1), .val (.int p2), .val (.int p3), .val (.int p4), .val (.int p5), .val (.int (1 : Int32)), .val (.double (4463067230724161536 : UInt64)), .second, .val (.long (4 : Int64)), .second, .val (.long vb), .second, .val (.long va), .second, .val (.long vu), .second, .val (.long vt), .second, .val (.long vc), .second, .unset, .unset, .unset, .unset] [(.double (FP.dmul (FP.l2d vt) (4463067230724161536 : UInt64))), (.double (FP.dmul (FP.l2d va) (4463067230724161536 : UInt64))), (.ref b44), (.ref b44)])) rfl (by rw [hml]; rfl) (Steps.refl _) (a := b44) (argsL := [(.double (FP.dmul (FP.l2d va) (4463067230724161536 : UInt64))), (.double (FP.dmul (FP.l2d vt) (4463067230724161536 : UInt64)))]) (rest := [(.ref b44)]) (lenOf pd_1 rfl) rfl (by show 2 * 0 + _ ≤ _; exact Nat.le_of_eq rfl) (hb hby at_109) (fun _ _ => ⟨rfl, e44, (by decide : 1 + 0 ≤ _), (by decide : 2 + 0 ≤ _)⟩)
    dsimp only [Pt.U, Pt.locs, Pt.cells, Pt.slots] at X51 l51 y51 z51 st51 hQ51
    subst l51 y51 z51
    obtain ⟨rfl, N51q, K51, P52, P53, P54⟩ := hQ51
    have N51_ := Fr.app N0 N51q
    refine Gl.via (fun _ k => st51.trans k) ?_
    have Z55 : n0 ≤ T51.heap.size := Nat.le_trans Z47 K51.1
    have Y56 : h0.size ≤ T51.heap.size := Nat.le_trans Y48 K51.1
    show Gl p.tables e below T51 (mkF m 112 #[.val (.int p0), .val (.int p1), .val (.int p2), .val (.int p3), .val (.int p4), .val (.int p5), .val (.int (1 : Int32)), .val (.double (4463067230724161536 : UInt64)), .second, .val (.long (4 : Int64)), .second, .val (.long vb), .second, .val (.long va), .second, .val (.long vu), .second, .val (.long vt), .second, .val (.long vc), .second, .unset, .unset, .unset, .unset] [(.ref b44)]) G
    refine Gl.via (fun _ k => XS.astore X51.here hx rfl (hb hby at_112) rfl rfl (l' := #[.val (.int p0), .val (.int p1), .val (.int p2), .val (.int p3), .val (.int p4), .val (.int p5), .val (.int (1 : Int32)), .val (.double (4463067230724161536 : UInt64)), .second, .val (.long (4 : Int64)), .second, .val (.long vb), .second, .val (.long va), .second, .val (.long vu), .second, .val (.long vt), .second, .val (.long vc), .second, .val (.ref b44), .unset, .unset, .unset]) rfl k) ?_
    show Gl p.tables e below T51 (mkF m 114 #[.val (.int p0), .val (.int p1), .val (.int p2), .val (.int p3), .val (.int p4), .val (.int p5), .val (.int (1 : Int32)), .val (.double (4463067230724161536 : UInt64)), .second, .val (.long (4 : Int64)), .second, .val (.long vb), .second, .val (.long va), .second, .val (.long vu), .second, .val (.long vt), .second, .val (.long vc), .second, .val (.ref b44), .unset, .unset, .unset] []) G
    obtain ⟨T57, h57, X57, e57, E57, A57, D57, -, st57⟩ := newO X51 hx hZ hown (hw _ (List.mem_of_getElem? (i := 2) rfl)) (hw _ (List.mem_of_getElem? (i := 3) rfl)) (hw _ (List.mem_of_getElem? (i := 4) rfl)) rfl (g := (mkF m 114 #[.val (.int p0), .val (.int p1), .val (.int p2), .val (.int p3), .val (.int p4), .val (.int p5), .val (.int (1 : Int32)), .val (.double (4463067230724161536 : UInt64)), .second, .val (.long (4 : Int64)), .second, .val (.long vb), .second, .val (.long va), .second, .val (.long vu), .second, .val (.long vt), .second, .val (.long vc), .second, .val (.ref b44), .unset, .unset, .unset] [])) rfl (hb hby at_114) (by decide) (by decide)
    obtain ⟨b57, g57⟩ : ∃ z, z = T51.heap.size := ⟨_, rfl⟩
    rw [← g57] at A57 D57 st57
    have ne58 : b44 ≠ b57 := Nat.ne_of_lt (Nat.lt_of_lt_of_le P52.lt (Nat.le_of_eq g57.symm))
    have ge59 : n0 ≤ b57 := Nat.le_trans Z55 (Nat.le_of_eq g57.symm)
    have gz60 : h0.size ≤ b57 := Nat.le_trans Y56 (Nat.le_of_eq g57.symm)
    refine Gl.via st57 ?_
    have Z61 : n0 ≤ h57.size := Nat.le_trans Z55 E57.1
    have Y62 : h0.size ≤ h57.size := Nat.le_trans Y56 E57.1
    have F63 : Fld Z h57 b57 "com/example/sortie/sortie/solver/Cost" "value" "D" (.double (0 : UInt64)) := D57 (Or.inr (hw _ (List.mem_of_getElem? (i := 17) rfl))) (ty := .double) (by decide)
    have F64 : Fld Z h57 b57 "com/example/sortie/sortie/solver/Cost" "tieBreak" "D" (.double (0 : UInt64)) := D57 (Or.inr (hw _ (List.mem_of_getElem? (i := 19) rfl))) (ty := .double) (by decide)
    show Gl p.tables e below T57 (mkF m 117 #[.val (.int p0), .val (.int p1), .val (.int p2), .val (.int p3), .val (.int p4), .val (.int p5), .val (.int (1 : Int32)), .val (.double (4463067230724161536 : UInt64)), .second, .val (.long (4 : Int64)), .second, .val (.long vb), .second, .val (.long va), .second, .val (.long vu), .second, .val (.long vt), .second, .val (.long vc), .second, .val (.ref b44), .unset, .unset, .unset] [(.ref b57)]) G
    refine Gl.via (fun _ k => XS.dup X57.here hx rfl (hb hby at_117) rfl rfl k) ?_
    show Gl p.tables e below T57 (mkF m 118 #[.val (.int p0), .val (.int p1), .val (.int p2), .val (.int p3), .val (.int p4), .val (.int p5), .val (.int (1 : Int32)), .val (.double (4463067230724161536 : UInt64)), .second, .val (.long (4 : Int64)), .second, .val (.long vb), .second, .val (.long va), .second, .val (.long vu), .second, .val (.long vt), .second, .val (.long vc), .second, .val (.ref b44), .unset, .unset, .unset] [(.ref b57), (.ref b57)]) G
    refine Gl.via (fun _ k => XS.lload X57.here hx rfl (hb hby at_118) rfl k) ?_
    show Gl p.tables e below T57 (mkF m 120 #[.val (.int p0), .val (.int p1), .val (.int p2), .val (.int p3), .val (.int p4), .val (.int p5), .val (.int (1 : Int32)), .val (.double (4463067230724161536 : UInt64)), .second, .val (.long (4 : Int64)), .second, .val (.long vb), .second, .val (.long va), .second, .val (.long vu), .second, .val (.long vt), .second, .val (.long vc), .second, .val (.ref b44), .unset, .unset, .unset] [(.long vb), (.ref b57), (.ref b57)]) G
    refine Gl.via (fun _ k => XS.l2dS X57.here hx rfl (hb hby at_120) rfl rfl k) ?_
    show Gl p.tables e below T57 (mkF m 121 #[.val (.int p0), .val (.int p1), .val (.int p2), .val (.int p3), .val (.int p4), .val (.int p5), .val (.int (1 : Int32)), .val (.double (4463067230724161536 : UInt64)), .second, .val (.long (4 : Int64)), .second, .val (.long vb), .second, .val (.long va), .second, .val (.long vu), .second, .val (.long vt), .second, .val (.long vc), .second, .val (.ref b44), .unset, .unset, .unset] [(.double (FP.l2d vb)), (.ref b57), (.ref b57)]) G
    refine Gl.via (fun _ k => XS.dload X57.here hx rfl (hb hby at_121) rfl k) ?_
    show Gl p.tables e below T57 (mkF m 123 #[.val (.int p0), .val (.int p1), .val (.int p2), .val (.int p3), .val (.int p4), .val (.int p5), .val (.int (1 : Int32)), .val (.double (4463067230724161536 : UInt64)), .second, .val (.long (4 : Int64)), .second, .val (.long vb), .second, .val (.long va), .second, .val (.long vu), .second, .val (.long vt), .second, .val (.long vc), .second, .val (.ref b44), .unset, .unset, .unset] [(.double (4463067230724161536 : UInt64)), (.double (FP.l2d vb)), (.ref b57), (.ref b57)]) G
    refine Gl.via (fun _ k => XS.dmulS X57.here hx rfl (hb hby at_123) rfl (dmul_out (l2d_fin _) own_unit_fin) rfl k) ?_
    show Gl p.tables e below T57 (mkF m 124 #[.val (.int p0), .val (.int p1), .val (.int p2), .val (.int p3), .val (.int p4), .val (.int p5), .val (.int (1 : Int32)), .val (.double (4463067230724161536 : UInt64)), .second, .val (.long (4 : Int64)), .second, .val (.long vb), .second, .val (.long va), .second, .val (.long vu), .second, .val (.long vt), .second, .val (.long vc), .second, .val (.ref b44), .unset, .unset, .unset] [(.double (FP.dmul (FP.l2d vb) (4463067230724161536 : UInt64))), (.ref b57), (.ref b57)]) G
    refine Gl.via (fun _ k => XS.lload X57.here hx rfl (hb hby at_124) rfl k) ?_
    show Gl p.tables e below T57 (mkF m 126 #[.val (.int p0), .val (.int p1), .val (.int p2), .val (.int p3), .val (.int p4), .val (.int p5), .val (.int (1 : Int32)), .val (.double (4463067230724161536 : UInt64)), .second, .val (.long (4 : Int64)), .second, .val (.long vb), .second, .val (.long va), .second, .val (.long vu), .second, .val (.long vt), .second, .val (.long vc), .second, .val (.ref b44), .unset, .unset, .unset] [(.long vu), (.double (FP.dmul (FP.l2d vb) (4463067230724161536 : UInt64))), (.ref b57), (.ref b57)]) G
    refine Gl.via (fun _ k => XS.l2dS X57.here hx rfl (hb hby at_126) rfl rfl k) ?_
    show Gl p.tables e below T57 (mkF m 127 #[.val (.int p0), .val (.int p1), .val (.int p2), .val (.int p3), .val (.int p4), .val (.int p5), .val (.int (1 : Int32)), .val (.double (4463067230724161536 : UInt64)), .second, .val (.long (4 : Int64)), .second, .val (.long vb), .second, .val (.long va), .second, .val (.long vu), .second, .val (.long vt), .second, .val (.long vc), .second, .val (.ref b44), .unset, .unset, .unset] [(.double (FP.l2d vu)), (.double (FP.dmul (FP.l2d vb) (4463067230724161536 : UInt64))), (.ref b57), (.ref b57)]) G
    refine Gl.via (fun _ k => XS.dload X57.here hx rfl (hb hby at_127) rfl k) ?_
    show Gl p.tables e below T57 (mkF m 129 #[.val (.int p0), .val (.int p1), .val (.int p2), .val (.int p3), .val (.int p4), .val (.int p5), .val (.int (1 : Int32)), .val (.double (4463067230724161536 : UInt64)), .second, .val (.long (4 : Int64)), .second, .val (.long vb), .second, .val (.long va), .second, .val (.long vu), .second, .val (.long vt), .second, .val (.long vc), .second, .val (.ref b44), .unset, .unset, .unset] [(.double (4463067230724161536 : UInt64)), (.double (FP.l2d vu)), (.double (FP.dmul (FP.l2d vb) (4463067230724161536 : UInt64))), (.ref b57), (.ref b57)]) G
    refine Gl.via (fun _ k => XS.dmulS X57.here hx rfl (hb hby at_129) rfl (dmul_out (l2d_fin _) own_unit_fin) rfl k) ?_
    show Gl p.tables e below T57 (mkF m 130 #[.val (.int p0), .val (.int p1), .val (.int p2), .val (.int p3), .val (.int p4), .val (.int p5), .val (.int (1 : Int32)), .val (.double (4463067230724161536 : UInt64)), .second, .val (.long (4 : Int64)), .second, .val (.long vb), .second, .val (.long va), .second, .val (.long vu), .second, .val (.long vt), .second, .val (.long vc), .second, .val (.ref b44), .unset, .unset, .unset] [(.double (FP.dmul (FP.l2d vu) (4463067230724161536 : UInt64))), (.double (FP.dmul (FP.l2d vb) (4463067230724161536 : UInt64))), (.ref b57), (.ref b57)]) G
    obtain ⟨_, _, ⟨T65, L65, k65, n65⟩, -, X65, ⟨Lc65, hQ65, l65, y65, z65⟩, st65⟩ := X57.specialBack hx (y := (⟨"com/example/sortie/sortie/solver/Cost", "<init>", "(DD)V"⟩ : MethodName)) rfl hown (mvT hZ (hw _ (List.mem_of_getElem? (i := 5) rfl))) (mvT hZ (hw _ (List.mem_of_getElem? (i := 6) rfl))) (mvT hZ (hw _ (List.mem_of_getElem? (i := 7) rfl))) (by decide) (backOf (W := 1) (c_init l Z a0 hw [] b57 (FP.dmul (FP.l2d vb) (4463067230724161536 : UInt64)) (FP.dmul (FP.l2d vu) (4463067230724161536 : UInt64)) (.double (0 : UInt64)) (.double (0 : UInt64)) h57 n0 Z61 A57 F63 F64 ge59) hZ (hw _ (List.mem_of_getElem? (i := 7) rfl)) (hw _ (List.mem_of_getElem? (i := 4) rfl)) (by decide) (by decide)) (g := (mkF m 130 #[.val (.int p0), .val (.int p1), .val (.int p2), .val (.int p3), .val (.int p4), .val (.int p5), .val (.int (1 : Int32)), .val (.double (4463067230724161536 : UInt64)), .second, .val (.long (4 : Int64)), .second, .val (.long vb), .second, .val (.long va), .second, .val (.long vu), .second, .val (.long vt), .second, .val (.long vc), .second, .val (.ref b44), .unset, .unset, .unset] [(.double (FP.dmul (FP.l2d vu) (4463067230724161536 : UInt64))), (.double (FP.dmul (FP.l2d vb) (4463067230724161536 : UInt64))), (.ref b57), (.ref b57)])) rfl (by rw [hml]; rfl) (Steps.refl _) (a := b57) (argsL := [(.double (FP.dmul (FP.l2d vb) (4463067230724161536 : UInt64))), (.double (FP.dmul (FP.l2d vu) (4463067230724161536 : UInt64)))]) (rest := [(.ref b57)]) (lenOf pd_1 rfl) rfl (by show 2 * 0 + _ ≤ _; exact Nat.le_of_eq rfl) (hb hby at_130) (fun _ _ => ⟨rfl, e57, (by decide : 2 + 0 ≤ _), (by decide : 4 + 0 ≤ _)⟩)
    dsimp only [Pt.U, Pt.locs, Pt.cells, Pt.slots] at X65 l65 y65 z65 st65 hQ65
    subst l65 y65 z65
    obtain ⟨rfl, N65q, K65, P66, P67, P68⟩ := hQ65
    have N65_ := Fr.app N51_ N65q
    refine Gl.via (fun _ k => st65.trans k) ?_
    have Z69 : n0 ≤ T65.heap.size := Nat.le_trans Z61 K65.1
    have Y70 : h0.size ≤ T65.heap.size := Nat.le_trans Y62 K65.1
    show Gl p.tables e below T65 (mkF m 133 #[.val (.int p0), .val (.int p1), .val (.int p2), .val (.int p3), .val (.int p4), .val (.int p5), .val (.int (1 : Int32)), .val (.double (4463067230724161536 : UInt64)), .second, .val (.long (4 : Int64)), .second, .val (.long vb), .second, .val (.long va), .second, .val (.long vu), .second, .val (.long vt), .second, .val (.long vc), .second, .val (.ref b44), .unset, .unset, .unset] [(.ref b57)]) G
    refine Gl.via (fun _ k => XS.astore X65.here hx rfl (hb hby at_133) rfl rfl (l' := #[.val (.int p0), .val (.int p1), .val (.int p2), .val (.int p3), .val (.int p4), .val (.int p5), .val (.int (1 : Int32)), .val (.double (4463067230724161536 : UInt64)), .second, .val (.long (4 : Int64)), .second, .val (.long vb), .second, .val (.long va), .second, .val (.long vu), .second, .val (.long vt), .second, .val (.long vc), .second, .val (.ref b44), .val (.ref b57), .unset, .unset]) rfl k) ?_
    show Gl p.tables e below T65 (mkF m 135 #[.val (.int p0), .val (.int p1), .val (.int p2), .val (.int p3), .val (.int p4), .val (.int p5), .val (.int (1 : Int32)), .val (.double (4463067230724161536 : UInt64)), .second, .val (.long (4 : Int64)), .second, .val (.long vb), .second, .val (.long va), .second, .val (.long vu), .second, .val (.long vt), .second, .val (.long vc), .second, .val (.ref b44), .val (.ref b57), .unset, .unset] []) G
    refine Gl.via (fun _ k => XS.aload X65.here hx rfl (hb hby at_135) rfl rfl k) ?_
    show Gl p.tables e below T65 (mkF m 137 #[.val (.int p0), .val (.int p1), .val (.int p2), .val (.int p3), .val (.int p4), .val (.int p5), .val (.int (1 : Int32)), .val (.double (4463067230724161536 : UInt64)), .second, .val (.long (4 : Int64)), .second, .val (.long vb), .second, .val (.long va), .second, .val (.long vu), .second, .val (.long vt), .second, .val (.long vc), .second, .val (.ref b44), .val (.ref b57), .unset, .unset] [(.ref b44)]) G
    refine Gl.via (fun _ k => XS.aload X65.here hx rfl (hb hby at_137) rfl rfl k) ?_
    show Gl p.tables e below T65 (mkF m 139 #[.val (.int p0), .val (.int p1), .val (.int p2), .val (.int p3), .val (.int p4), .val (.int p5), .val (.int (1 : Int32)), .val (.double (4463067230724161536 : UInt64)), .second, .val (.long (4 : Int64)), .second, .val (.long vb), .second, .val (.long va), .second, .val (.long vu), .second, .val (.long vt), .second, .val (.long vc), .second, .val (.ref b44), .val (.ref b57), .unset, .unset] [(.ref b57), (.ref b44)]) G
    refine Gl.via (fun _ k => XS.lload X65.here hx rfl (hb hby at_139) rfl k) ?_
    show Gl p.tables e below T65 (mkF m 141 #[.val (.int p0), .val (.int p1), .val (.int p2), .val (.int p3), .val (.int p4), .val (.int p5), .val (.int (1 : Int32)), .val (.double (4463067230724161536 : UInt64)), .second, .val (.long (4 : Int64)), .second, .val (.long vb), .second, .val (.long va), .second, .val (.long vu), .second, .val (.long vt), .second, .val (.long vc), .second, .val (.ref b44), .val (.ref b57), .unset, .unset] [(.long vc), (.ref b57), (.ref b44)]) G
    refine Gl.via (fun _ k => XS.l2dS X65.here hx rfl (hb hby at_141) rfl rfl k) ?_
    show Gl p.tables e below T65 (mkF m 142 #[.val (.int p0), .val (.int p1), .val (.int p2), .val (.int p3), .val (.int p4), .val (.int p5), .val (.int (1 : Int32)), .val (.double (4463067230724161536 : UInt64)), .second, .val (.long (4 : Int64)), .second, .val (.long vb), .second, .val (.long va), .second, .val (.long vu), .second, .val (.long vt), .second, .val (.long vc), .second, .val (.ref b44), .val (.ref b57), .unset, .unset] [(.double (FP.l2d vc)), (.ref b57), (.ref b44)]) G
    refine Gl.via (fun _ k => XS.dload X65.here hx rfl (hb hby at_142) rfl k) ?_
    show Gl p.tables e below T65 (mkF m 144 #[.val (.int p0), .val (.int p1), .val (.int p2), .val (.int p3), .val (.int p4), .val (.int p5), .val (.int (1 : Int32)), .val (.double (4463067230724161536 : UInt64)), .second, .val (.long (4 : Int64)), .second, .val (.long vb), .second, .val (.long va), .second, .val (.long vu), .second, .val (.long vt), .second, .val (.long vc), .second, .val (.ref b44), .val (.ref b57), .unset, .unset] [(.double (4463067230724161536 : UInt64)), (.double (FP.l2d vc)), (.ref b57), (.ref b44)]) G
    refine Gl.via (fun _ k => XS.dmulS X65.here hx rfl (hb hby at_144) rfl (dmul_out (l2d_fin _) own_unit_fin) rfl k) ?_
    show Gl p.tables e below T65 (mkF m 145 #[.val (.int p0), .val (.int p1), .val (.int p2), .val (.int p3), .val (.int p4), .val (.int p5), .val (.int (1 : Int32)), .val (.double (4463067230724161536 : UInt64)), .second, .val (.long (4 : Int64)), .second, .val (.long vb), .second, .val (.long va), .second, .val (.long vu), .second, .val (.long vt), .second, .val (.long vc), .second, .val (.ref b44), .val (.ref b57), .unset, .unset] [(.double (FP.dmul (FP.l2d vc) (4463067230724161536 : UInt64))), (.ref b57), (.ref b44)]) G
    have dA := own_fine hA.n
    have dB := own_fine hB.n
    have dTA := own_fine hTA.n
    have dTB := own_fine hTB.n
    have dC := own_fine hC.n
    have s1 := own_sub dB dC (own_sn hB hC) (by decide)
    have s3 := own_sub dTB dC (own_sn hTB hC) (by decide)
    have k2 := own_eps (e := 1041) (t := 4) dA dB own_w_fin rfl own_w_f1 own_w_f2 (own_en hB (by decide)) (by decide)
    have k1 := own_lt dA s1 .g
    have k3 := own_lt dTA s3 .g
    have m1 := val64_no.mpr s1.nn
    have m3 := val64_no.mpr s3.nn
    by_cases e1 : va.toInt < vb.toInt - vc.toInt
    · have G72 : Fld Z T65.heap b44 "com/example/sortie/sortie/solver/Cost" "value" "D" (.double (FP.dmul (FP.l2d va) (4463067230724161536 : UInt64))) := ((P53.ext E57).keep K65 (ninS ne58 nin0))
      have G73 : Fld Z T65.heap b44 "com/example/sortie/sortie/solver/Cost" "tieBreak" "D" (.double (FP.dmul (FP.l2d vt) (4463067230724161536 : UInt64))) := ((P54.ext E57).keep K65 (ninS ne58 nin0))
      have G74 : Exa Z T65.heap b44 "com/example/sortie/sortie/solver/Cost" := ((P52.ext E57).keep K65)
      obtain ⟨cq71, kq71, q71a, q71b, q71c⟩ := isOf hZ rfl G74
      obtain ⟨_, _, ⟨T71, L71, k71, n71⟩, -, X71, ⟨Lc71, hQ71, l71, y71, z71⟩, st71⟩ := X65.virtualBack hx (y := (⟨"com/example/sortie/sortie/solver/Cost", "below", "(Lcom/example/sortie/sortie/solver/Cost;D)Z"⟩ : MethodName)) (z := (⟨"com/example/sortie/sortie/solver/Cost", "below", "(Lcom/example/sortie/sortie/solver/Cost;D)Z"⟩ : MethodName)) hown (mvT hZ (hw _ (List.mem_of_getElem? (i := 20) rfl))) (mvT hZ (hw _ (List.mem_of_getElem? (i := 21) rfl))) (notFace_of_selects (args := #[]) (mvT hZ (hw _ (List.mem_of_getElem? (i := 23) rfl)))) (mvT hZ (hw _ (List.mem_of_getElem? (i := 23) rfl))) (mvT hZ (hw _ (List.mem_of_getElem? (i := 22) rfl))) (by decide) (backOf (W := 0) (b1a l Z a0 hw [] b44 b57 (FP.dmul (FP.l2d vc) (4463067230724161536 : UInt64)) (FP.dmul (FP.l2d va) (4463067230724161536 : UInt64)) (FP.dmul (FP.l2d vb) (4463067230724161536 : UInt64)) (FP.dmul (FP.l2d vt) (4463067230724161536 : UInt64)) (FP.dmul (FP.l2d vu) (4463067230724161536 : UInt64)) T65.heap n0 Z69 G72 P67 G73 P68 m1 (k1.mpr e1)) hZ (hw _ (List.mem_of_getElem? (i := 24) rfl)) (hw _ (List.mem_of_getElem? (i := 4) rfl)) (by decide) (by decide)) q71a q71c (g := (mkF m 145 #[.val (.int p0), .val (.int p1), .val (.int p2), .val (.int p3), .val (.int p4), .val (.int p5), .val (.int (1 : Int32)), .val (.double (4463067230724161536 : UInt64)), .second, .val (.long (4 : Int64)), .second, .val (.long vb), .second, .val (.long va), .second, .val (.long vu), .second, .val (.long vt), .second, .val (.long vc), .second, .val (.ref b44), .val (.ref b57), .unset, .unset] [(.double (FP.dmul (FP.l2d vc) (4463067230724161536 : UInt64))), (.ref b57), (.ref b44)])) rfl (by rw [hml]; rfl) (Steps.refl _) (argsL := [(.ref b57), (.double (FP.dmul (FP.l2d vc) (4463067230724161536 : UInt64)))]) (rest := []) (lenOf pd_2 rfl) rfl (by show 2 * 0 + _ ≤ _; exact Nat.le_of_eq rfl) (hb hby at_145) (fun _ _ => ⟨rfl, rfl, (by decide : 2 + 0 ≤ _), (by decide : 4 + 0 ≤ _)⟩)
      dsimp only [Pt.U, Pt.locs, Pt.cells, Pt.slots] at X71 l71 y71 z71 st71 hQ71
      subst l71 y71 z71
      obtain ⟨rfl, N71q, eh71⟩ := hQ71
      have N71_ := Fr.app N65_ N71q
      refine Gl.via (fun _ k => st71.trans k) ?_
      show Gl p.tables e below T71 (mkF m 148 #[.val (.int p0), .val (.int p1), .val (.int p2), .val (.int p3), .val (.int p4), .val (.int p5), .val (.int (1 : Int32)), .val (.double (4463067230724161536 : UInt64)), .second, .val (.long (4 : Int64)), .second, .val (.long vb), .second, .val (.long va), .second, .val (.long vu), .second, .val (.long vt), .second, .val (.long vc), .second, .val (.ref b44), .val (.ref b57), .unset, .unset] [(.int (1 : Int32))]) G
      refine Gl.via (fun _ k => XS.istore X71.here hx rfl (hb hby at_148) rfl (l' := #[.val (.int p0), .val (.int p1), .val (.int p2), .val (.int p3), .val (.int p4), .val (.int p5), .val (.int (1 : Int32)), .val (.double (4463067230724161536 : UInt64)), .second, .val (.long (4 : Int64)), .second, .val (.long vb), .second, .val (.long va), .second, .val (.long vu), .second, .val (.long vt), .second, .val (.long vc), .second, .val (.ref b44), .val (.ref b57), .val (.int (1 : Int32)), .unset]) rfl k) ?_
      show Gl p.tables e below T71 (mkF m 150 #[.val (.int p0), .val (.int p1), .val (.int p2), .val (.int p3), .val (.int p4), .val (.int p5), .val (.int (1 : Int32)), .val (.double (4463067230724161536 : UInt64)), .second, .val (.long (4 : Int64)), .second, .val (.long vb), .second, .val (.long va), .second, .val (.long vu), .second, .val (.long vt), .second, .val (.long vc), .second, .val (.ref b44), .val (.ref b57), .val (.int (1 : Int32)), .unset] []) G
      refine Gl.via (fun _ k => XS.lload X71.here hx rfl (hb hby at_150) rfl k) ?_
      show Gl p.tables e below T71 (mkF m 152 #[.val (.int p0), .val (.int p1), .val (.int p2), .val (.int p3), .val (.int p4), .val (.int p5), .val (.int (1 : Int32)), .val (.double (4463067230724161536 : UInt64)), .second, .val (.long (4 : Int64)), .second, .val (.long vb), .second, .val (.long va), .second, .val (.long vu), .second, .val (.long vt), .second, .val (.long vc), .second, .val (.ref b44), .val (.ref b57), .val (.int (1 : Int32)), .unset] [(.long va)]) G
      refine Gl.via (fun _ k => XS.lload X71.here hx rfl (hb hby at_152) rfl k) ?_
      show Gl p.tables e below T71 (mkF m 154 #[.val (.int p0), .val (.int p1), .val (.int p2), .val (.int p3), .val (.int p4), .val (.int p5), .val (.int (1 : Int32)), .val (.double (4463067230724161536 : UInt64)), .second, .val (.long (4 : Int64)), .second, .val (.long vb), .second, .val (.long va), .second, .val (.long vu), .second, .val (.long vt), .second, .val (.long vc), .second, .val (.ref b44), .val (.ref b57), .val (.int (1 : Int32)), .unset] [(.long vb), (.long va)]) G
      refine Gl.via (fun _ k => XS.lload X71.here hx rfl (hb hby at_154) rfl k) ?_
      show Gl p.tables e below T71 (mkF m 156 #[.val (.int p0), .val (.int p1), .val (.int p2), .val (.int p3), .val (.int p4), .val (.int p5), .val (.int (1 : Int32)), .val (.double (4463067230724161536 : UInt64)), .second, .val (.long (4 : Int64)), .second, .val (.long vb), .second, .val (.long va), .second, .val (.long vu), .second, .val (.long vt), .second, .val (.long vc), .second, .val (.ref b44), .val (.ref b57), .val (.int (1 : Int32)), .unset] [(.long vc), (.long vb), (.long va)]) G
      refine Gl.via (fun _ k => XS.lsub X71.here hx rfl (hb hby at_156) rfl k) ?_
      show Gl p.tables e below T71 (mkF m 157 #[.val (.int p0), .val (.int p1), .val (.int p2), .val (.int p3), .val (.int p4), .val (.int p5), .val (.int (1 : Int32)), .val (.double (4463067230724161536 : UInt64)), .second, .val (.long (4 : Int64)), .second, .val (.long vb), .second, .val (.long va), .second, .val (.long vu), .second, .val (.long vt), .second, .val (.long vc), .second, .val (.ref b44), .val (.ref b57), .val (.int (1 : Int32)), .unset] [(.long (vb - vc)), (.long va)]) G
      refine Gl.via (fun _ k => XS.lcmp X71.here hx rfl (hb hby at_157) rfl k) ?_
      show Gl p.tables e below T71 (mkF m 158 #[.val (.int p0), .val (.int p1), .val (.int p2), .val (.int p3), .val (.int p4), .val (.int p5), .val (.int (1 : Int32)), .val (.double (4463067230724161536 : UInt64)), .second, .val (.long (4 : Int64)), .second, .val (.long vb), .second, .val (.long va), .second, .val (.long vu), .second, .val (.long vt), .second, .val (.long vc), .second, .val (.ref b44), .val (.ref b57), .val (.int (1 : Int32)), .unset] [(.int (lcmpW va (vb - vc)))]) G
      refine Gl.via (fun _ k => XS.ifYes X71.here hx rfl (pc0 := 158) (pc' := 183) rfl (hb hby at_158) rfl ((if0 _ _).trans (tlt ((own_ls hB hC).mpr e1)).1) (by decide) (by decide) k) ?_
      show Gl p.tables e below T71 (mkF m 183 #[.val (.int p0), .val (.int p1), .val (.int p2), .val (.int p3), .val (.int p4), .val (.int p5), .val (.int (1 : Int32)), .val (.double (4463067230724161536 : UInt64)), .second, .val (.long (4 : Int64)), .second, .val (.long vb), .second, .val (.long va), .second, .val (.long vu), .second, .val (.long vt), .second, .val (.long vc), .second, .val (.ref b44), .val (.ref b57), .val (.int (1 : Int32)), .unset] []) G
      refine Gl.via (fun _ k => XS.iconst X71.here hx rfl (hb hby at_183) k) ?_
      show Gl p.tables e below T71 (mkF m 184 #[.val (.int p0), .val (.int p1), .val (.int p2), .val (.int p3), .val (.int p4), .val (.int p5), .val (.int (1 : Int32)), .val (.double (4463067230724161536 : UInt64)), .second, .val (.long (4 : Int64)), .second, .val (.long vb), .second, .val (.long va), .second, .val (.long vu), .second, .val (.long vt), .second, .val (.long vc), .second, .val (.ref b44), .val (.ref b57), .val (.int (1 : Int32)), .unset] [(.int (1 : Int32))]) G
      refine Gl.via (fun _ k => XS.goto X71.here hx rfl (pc0 := 184) (pc' := 188) rfl (hb hby at_184) (by decide) (by decide) k) ?_
      show Gl p.tables e below T71 (mkF m 188 #[.val (.int p0), .val (.int p1), .val (.int p2), .val (.int p3), .val (.int p4), .val (.int p5), .val (.int (1 : Int32)), .val (.double (4463067230724161536 : UInt64)), .second, .val (.long (4 : Int64)), .second, .val (.long vb), .second, .val (.long va), .second, .val (.long vu), .second, .val (.long vt), .second, .val (.long vc), .second, .val (.ref b44), .val (.ref b57), .val (.int (1 : Int32)), .unset] [(.int (1 : Int32))]) G
      refine Gl.via (fun _ k => XS.istore X71.here hx rfl (hb hby at_188) rfl (l' := #[.val (.int p0), .val (.int p1), .val (.int p2), .val (.int p3), .val (.int p4), .val (.int p5), .val (.int (1 : Int32)), .val (.double (4463067230724161536 : UInt64)), .second, .val (.long (4 : Int64)), .second, .val (.long vb), .second, .val (.long va), .second, .val (.long vu), .second, .val (.long vt), .second, .val (.long vc), .second, .val (.ref b44), .val (.ref b57), .val (.int (1 : Int32)), .val (.int (1 : Int32))]) rfl k) ?_
      show Gl p.tables e below T71 (mkF m 190 #[.val (.int p0), .val (.int p1), .val (.int p2), .val (.int p3), .val (.int p4), .val (.int p5), .val (.int (1 : Int32)), .val (.double (4463067230724161536 : UInt64)), .second, .val (.long (4 : Int64)), .second, .val (.long vb), .second, .val (.long va), .second, .val (.long vu), .second, .val (.long vt), .second, .val (.long vc), .second, .val (.ref b44), .val (.ref b57), .val (.int (1 : Int32)), .val (.int (1 : Int32))] []) G
      refine Gl.via (fun _ k => XS.iload X71.here hx rfl (hb hby at_190) rfl k) ?_
      show Gl p.tables e below T71 (mkF m 192 #[.val (.int p0), .val (.int p1), .val (.int p2), .val (.int p3), .val (.int p4), .val (.int p5), .val (.int (1 : Int32)), .val (.double (4463067230724161536 : UInt64)), .second, .val (.long (4 : Int64)), .second, .val (.long vb), .second, .val (.long va), .second, .val (.long vu), .second, .val (.long vt), .second, .val (.long vc), .second, .val (.ref b44), .val (.ref b57), .val (.int (1 : Int32)), .val (.int (1 : Int32))] [(.int (1 : Int32))]) G
      refine Gl.via (fun _ k => XS.iload X71.here hx rfl (hb hby at_192) rfl k) ?_
      show Gl p.tables e below T71 (mkF m 194 #[.val (.int p0), .val (.int p1), .val (.int p2), .val (.int p3), .val (.int p4), .val (.int p5), .val (.int (1 : Int32)), .val (.double (4463067230724161536 : UInt64)), .second, .val (.long (4 : Int64)), .second, .val (.long vb), .second, .val (.long va), .second, .val (.long vu), .second, .val (.long vt), .second, .val (.long vc), .second, .val (.ref b44), .val (.ref b57), .val (.int (1 : Int32)), .val (.int (1 : Int32))] [(.int (1 : Int32)), (.int (1 : Int32))]) G
      refine Gl.via (fun _ k => XS.icmpNo X71.here hx rfl (hb hby at_194) rfl (teq (by decide)).2 k) ?_
      show Gl p.tables e below T71 (mkF m 197 #[.val (.int p0), .val (.int p1), .val (.int p2), .val (.int p3), .val (.int p4), .val (.int p5), .val (.int (1 : Int32)), .val (.double (4463067230724161536 : UInt64)), .second, .val (.long (4 : Int64)), .second, .val (.long vb), .second, .val (.long va), .second, .val (.long vu), .second, .val (.long vt), .second, .val (.long vc), .second, .val (.ref b44), .val (.ref b57), .val (.int (1 : Int32)), .val (.int (1 : Int32))] []) G
      refine Gl.via (fun _ k => XS.iconst X71.here hx rfl (hb hby at_197) k) ?_
      show Gl p.tables e below T71 (mkF m 198 #[.val (.int p0), .val (.int p1), .val (.int p2), .val (.int p3), .val (.int p4), .val (.int p5), .val (.int (1 : Int32)), .val (.double (4463067230724161536 : UInt64)), .second, .val (.long (4 : Int64)), .second, .val (.long vb), .second, .val (.long va), .second, .val (.long vu), .second, .val (.long vt), .second, .val (.long vc), .second, .val (.ref b44), .val (.ref b57), .val (.int (1 : Int32)), .val (.int (1 : Int32))] [(.int (1 : Int32))]) G
      refine Gl.via (fun _ k => XS.goto X71.here hx rfl (pc0 := 198) (pc' := 202) rfl (hb hby at_198) (by decide) (by decide) k) ?_
      show Gl p.tables e below T71 (mkF m 202 #[.val (.int p0), .val (.int p1), .val (.int p2), .val (.int p3), .val (.int p4), .val (.int p5), .val (.int (1 : Int32)), .val (.double (4463067230724161536 : UInt64)), .second, .val (.long (4 : Int64)), .second, .val (.long vb), .second, .val (.long va), .second, .val (.long vu), .second, .val (.long vt), .second, .val (.long vc), .second, .val (.ref b44), .val (.ref b57), .val (.int (1 : Int32)), .val (.int (1 : Int32))] [(.int (1 : Int32))]) G
      obtain ⟨fs, hr, hrun, hended, hW, hsame⟩ := X71.leave (v := some (.int (1 : Int32))) (fun h => by rw [Bd.returns] at h; cases h)
      have hq : ∀ L, Fr n0 L → Q_rm0 Z p0 p1 p2 p3 p4 p5 h0 n0 (some (.int (1 : Int32))) T71.heap L := by
        intro L hN
        rw [eh71]
        exact ⟨rfl, hN⟩
      rw [hG]
      exact Gl.fin (retN X71 hx (t := .boolean) Bd.returns (by simp) (hb hby at_202) hr) ⟨_, hrun, hended, _, _, rfl, hq _ N71_, ⟨_, rfl⟩, hW, hsame.mono (by decide) (by decide)⟩
    · by_cases e2 : vb.toInt + 4 < va.toInt
      · have G76 : Fld Z T65.heap b44 "com/example/sortie/sortie/solver/Cost" "value" "D" (.double (FP.dmul (FP.l2d va) (4463067230724161536 : UInt64))) := ((P53.ext E57).keep K65 (ninS ne58 nin0))
        have G77 : Fld Z T65.heap b44 "com/example/sortie/sortie/solver/Cost" "tieBreak" "D" (.double (FP.dmul (FP.l2d vt) (4463067230724161536 : UInt64))) := ((P54.ext E57).keep K65 (ninS ne58 nin0))
        have G78 : Exa Z T65.heap b44 "com/example/sortie/sortie/solver/Cost" := ((P52.ext E57).keep K65)
        obtain ⟨cq75, kq75, q75a, q75b, q75c⟩ := isOf hZ rfl G78
        obtain ⟨_, _, ⟨T75, L75, k75, n75⟩, -, X75, ⟨Lc75, hQ75, l75, y75, z75⟩, st75⟩ := X65.virtualBack hx (y := (⟨"com/example/sortie/sortie/solver/Cost", "below", "(Lcom/example/sortie/sortie/solver/Cost;D)Z"⟩ : MethodName)) (z := (⟨"com/example/sortie/sortie/solver/Cost", "below", "(Lcom/example/sortie/sortie/solver/Cost;D)Z"⟩ : MethodName)) hown (mvT hZ (hw _ (List.mem_of_getElem? (i := 20) rfl))) (mvT hZ (hw _ (List.mem_of_getElem? (i := 21) rfl))) (notFace_of_selects (args := #[]) (mvT hZ (hw _ (List.mem_of_getElem? (i := 23) rfl)))) (mvT hZ (hw _ (List.mem_of_getElem? (i := 23) rfl))) (mvT hZ (hw _ (List.mem_of_getElem? (i := 22) rfl))) (by decide) (backOf (W := 0) (b0a l Z a0 hw [] b44 b57 (FP.dmul (FP.l2d vc) (4463067230724161536 : UInt64)) (FP.dmul (FP.l2d va) (4463067230724161536 : UInt64)) (FP.dmul (FP.l2d vb) (4463067230724161536 : UInt64)) (FP.dmul (FP.l2d vt) (4463067230724161536 : UInt64)) (FP.dmul (FP.l2d vu) (4463067230724161536 : UInt64)) T65.heap n0 Z69 G76 P67 G77 P68 m1 k2.1 (fun q => e1 (k1.mp q)) (k2.2.mpr e2)) hZ (hw _ (List.mem_of_getElem? (i := 24) rfl)) (hw _ (List.mem_of_getElem? (i := 4) rfl)) (by decide) (by decide)) q75a q75c (g := (mkF m 145 #[.val (.int p0), .val (.int p1), .val (.int p2), .val (.int p3), .val (.int p4), .val (.int p5), .val (.int (1 : Int32)), .val (.double (4463067230724161536 : UInt64)), .second, .val (.long (4 : Int64)), .second, .val (.long vb), .second, .val (.long va), .second, .val (.long vu), .second, .val (.long vt), .second, .val (.long vc), .second, .val (.ref b44), .val (.ref b57), .unset, .unset] [(.double (FP.dmul (FP.l2d vc) (4463067230724161536 : UInt64))), (.ref b57), (.ref b44)])) rfl (by rw [hml]; rfl) (Steps.refl _) (argsL := [(.ref b57), (.double (FP.dmul (FP.l2d vc) (4463067230724161536 : UInt64)))]) (rest := []) (lenOf pd_2 rfl) rfl (by show 2 * 0 + _ ≤ _; exact Nat.le_of_eq rfl) (hb hby at_145) (fun _ _ => ⟨rfl, rfl, (by decide : 2 + 0 ≤ _), (by decide : 4 + 0 ≤ _)⟩)
        dsimp only [Pt.U, Pt.locs, Pt.cells, Pt.slots] at X75 l75 y75 z75 st75 hQ75
        subst l75 y75 z75
        obtain ⟨rfl, N75q, eh75⟩ := hQ75
        have N75_ := Fr.app N65_ N75q
        refine Gl.via (fun _ k => st75.trans k) ?_
        show Gl p.tables e below T75 (mkF m 148 #[.val (.int p0), .val (.int p1), .val (.int p2), .val (.int p3), .val (.int p4), .val (.int p5), .val (.int (1 : Int32)), .val (.double (4463067230724161536 : UInt64)), .second, .val (.long (4 : Int64)), .second, .val (.long vb), .second, .val (.long va), .second, .val (.long vu), .second, .val (.long vt), .second, .val (.long vc), .second, .val (.ref b44), .val (.ref b57), .unset, .unset] [(.int (0 : Int32))]) G
        refine Gl.via (fun _ k => XS.istore X75.here hx rfl (hb hby at_148) rfl (l' := #[.val (.int p0), .val (.int p1), .val (.int p2), .val (.int p3), .val (.int p4), .val (.int p5), .val (.int (1 : Int32)), .val (.double (4463067230724161536 : UInt64)), .second, .val (.long (4 : Int64)), .second, .val (.long vb), .second, .val (.long va), .second, .val (.long vu), .second, .val (.long vt), .second, .val (.long vc), .second, .val (.ref b44), .val (.ref b57), .val (.int (0 : Int32)), .unset]) rfl k) ?_
        show Gl p.tables e below T75 (mkF m 150 #[.val (.int p0), .val (.int p1), .val (.int p2), .val (.int p3), .val (.int p4), .val (.int p5), .val (.int (1 : Int32)), .val (.double (4463067230724161536 : UInt64)), .second, .val (.long (4 : Int64)), .second, .val (.long vb), .second, .val (.long va), .second, .val (.long vu), .second, .val (.long vt), .second, .val (.long vc), .second, .val (.ref b44), .val (.ref b57), .val (.int (0 : Int32)), .unset] []) G
        refine Gl.via (fun _ k => XS.lload X75.here hx rfl (hb hby at_150) rfl k) ?_
        show Gl p.tables e below T75 (mkF m 152 #[.val (.int p0), .val (.int p1), .val (.int p2), .val (.int p3), .val (.int p4), .val (.int p5), .val (.int (1 : Int32)), .val (.double (4463067230724161536 : UInt64)), .second, .val (.long (4 : Int64)), .second, .val (.long vb), .second, .val (.long va), .second, .val (.long vu), .second, .val (.long vt), .second, .val (.long vc), .second, .val (.ref b44), .val (.ref b57), .val (.int (0 : Int32)), .unset] [(.long va)]) G
        refine Gl.via (fun _ k => XS.lload X75.here hx rfl (hb hby at_152) rfl k) ?_
        show Gl p.tables e below T75 (mkF m 154 #[.val (.int p0), .val (.int p1), .val (.int p2), .val (.int p3), .val (.int p4), .val (.int p5), .val (.int (1 : Int32)), .val (.double (4463067230724161536 : UInt64)), .second, .val (.long (4 : Int64)), .second, .val (.long vb), .second, .val (.long va), .second, .val (.long vu), .second, .val (.long vt), .second, .val (.long vc), .second, .val (.ref b44), .val (.ref b57), .val (.int (0 : Int32)), .unset] [(.long vb), (.long va)]) G
        refine Gl.via (fun _ k => XS.lload X75.here hx rfl (hb hby at_154) rfl k) ?_
        show Gl p.tables e below T75 (mkF m 156 #[.val (.int p0), .val (.int p1), .val (.int p2), .val (.int p3), .val (.int p4), .val (.int p5), .val (.int (1 : Int32)), .val (.double (4463067230724161536 : UInt64)), .second, .val (.long (4 : Int64)), .second, .val (.long vb), .second, .val (.long va), .second, .val (.long vu), .second, .val (.long vt), .second, .val (.long vc), .second, .val (.ref b44), .val (.ref b57), .val (.int (0 : Int32)), .unset] [(.long vc), (.long vb), (.long va)]) G
        refine Gl.via (fun _ k => XS.lsub X75.here hx rfl (hb hby at_156) rfl k) ?_
        show Gl p.tables e below T75 (mkF m 157 #[.val (.int p0), .val (.int p1), .val (.int p2), .val (.int p3), .val (.int p4), .val (.int p5), .val (.int (1 : Int32)), .val (.double (4463067230724161536 : UInt64)), .second, .val (.long (4 : Int64)), .second, .val (.long vb), .second, .val (.long va), .second, .val (.long vu), .second, .val (.long vt), .second, .val (.long vc), .second, .val (.ref b44), .val (.ref b57), .val (.int (0 : Int32)), .unset] [(.long (vb - vc)), (.long va)]) G
        refine Gl.via (fun _ k => XS.lcmp X75.here hx rfl (hb hby at_157) rfl k) ?_
        show Gl p.tables e below T75 (mkF m 158 #[.val (.int p0), .val (.int p1), .val (.int p2), .val (.int p3), .val (.int p4), .val (.int p5), .val (.int (1 : Int32)), .val (.double (4463067230724161536 : UInt64)), .second, .val (.long (4 : Int64)), .second, .val (.long vb), .second, .val (.long va), .second, .val (.long vu), .second, .val (.long vt), .second, .val (.long vc), .second, .val (.ref b44), .val (.ref b57), .val (.int (0 : Int32)), .unset] [(.int (lcmpW va (vb - vc)))]) G
        refine Gl.via (fun _ k => XS.ifNo X75.here hx rfl (hb hby at_158) rfl ((if0 _ _).trans (flt (fun q => e1 ((own_ls hB hC).mp q))).1) k) ?_
        show Gl p.tables e below T75 (mkF m 161 #[.val (.int p0), .val (.int p1), .val (.int p2), .val (.int p3), .val (.int p4), .val (.int p5), .val (.int (1 : Int32)), .val (.double (4463067230724161536 : UInt64)), .second, .val (.long (4 : Int64)), .second, .val (.long vb), .second, .val (.long va), .second, .val (.long vu), .second, .val (.long vt), .second, .val (.long vc), .second, .val (.ref b44), .val (.ref b57), .val (.int (0 : Int32)), .unset] []) G
        refine Gl.via (fun _ k => XS.lload X75.here hx rfl (hb hby at_161) rfl k) ?_
        show Gl p.tables e below T75 (mkF m 163 #[.val (.int p0), .val (.int p1), .val (.int p2), .val (.int p3), .val (.int p4), .val (.int p5), .val (.int (1 : Int32)), .val (.double (4463067230724161536 : UInt64)), .second, .val (.long (4 : Int64)), .second, .val (.long vb), .second, .val (.long va), .second, .val (.long vu), .second, .val (.long vt), .second, .val (.long vc), .second, .val (.ref b44), .val (.ref b57), .val (.int (0 : Int32)), .unset] [(.long va)]) G
        refine Gl.via (fun _ k => XS.lload X75.here hx rfl (hb hby at_163) rfl k) ?_
        show Gl p.tables e below T75 (mkF m 165 #[.val (.int p0), .val (.int p1), .val (.int p2), .val (.int p3), .val (.int p4), .val (.int p5), .val (.int (1 : Int32)), .val (.double (4463067230724161536 : UInt64)), .second, .val (.long (4 : Int64)), .second, .val (.long vb), .second, .val (.long va), .second, .val (.long vu), .second, .val (.long vt), .second, .val (.long vc), .second, .val (.ref b44), .val (.ref b57), .val (.int (0 : Int32)), .unset] [(.long vb), (.long va)]) G
        refine Gl.via (fun _ k => XS.lload X75.here hx rfl (hb hby at_165) rfl k) ?_
        show Gl p.tables e below T75 (mkF m 167 #[.val (.int p0), .val (.int p1), .val (.int p2), .val (.int p3), .val (.int p4), .val (.int p5), .val (.int (1 : Int32)), .val (.double (4463067230724161536 : UInt64)), .second, .val (.long (4 : Int64)), .second, .val (.long vb), .second, .val (.long va), .second, .val (.long vu), .second, .val (.long vt), .second, .val (.long vc), .second, .val (.ref b44), .val (.ref b57), .val (.int (0 : Int32)), .unset] [(.long (4 : Int64)), (.long vb), (.long va)]) G
        refine Gl.via (fun _ k => XS.ladd X75.here hx rfl (hb hby at_167) rfl k) ?_
        show Gl p.tables e below T75 (mkF m 168 #[.val (.int p0), .val (.int p1), .val (.int p2), .val (.int p3), .val (.int p4), .val (.int p5), .val (.int (1 : Int32)), .val (.double (4463067230724161536 : UInt64)), .second, .val (.long (4 : Int64)), .second, .val (.long vb), .second, .val (.long va), .second, .val (.long vu), .second, .val (.long vt), .second, .val (.long vc), .second, .val (.ref b44), .val (.ref b57), .val (.int (0 : Int32)), .unset] [(.long (vb + (4 : Int64))), (.long va)]) G
        refine Gl.via (fun _ k => XS.lcmp X75.here hx rfl (hb hby at_168) rfl k) ?_
        show Gl p.tables e below T75 (mkF m 169 #[.val (.int p0), .val (.int p1), .val (.int p2), .val (.int p3), .val (.int p4), .val (.int p5), .val (.int (1 : Int32)), .val (.double (4463067230724161536 : UInt64)), .second, .val (.long (4 : Int64)), .second, .val (.long vb), .second, .val (.long va), .second, .val (.long vu), .second, .val (.long vt), .second, .val (.long vc), .second, .val (.ref b44), .val (.ref b57), .val (.int (0 : Int32)), .unset] [(.int (lcmpW va (vb + (4 : Int64))))]) G
        refine Gl.via (fun _ k => XS.ifYes X75.here hx rfl (pc0 := 169) (pc' := 187) rfl (hb hby at_169) rfl ((if0 _ _).trans (tlt ((own_la hB (by decide : (4 : Int64).toInt = 4) (by decide)).mpr e2)).2.2.1) (by decide) (by decide) k) ?_
        show Gl p.tables e below T75 (mkF m 187 #[.val (.int p0), .val (.int p1), .val (.int p2), .val (.int p3), .val (.int p4), .val (.int p5), .val (.int (1 : Int32)), .val (.double (4463067230724161536 : UInt64)), .second, .val (.long (4 : Int64)), .second, .val (.long vb), .second, .val (.long va), .second, .val (.long vu), .second, .val (.long vt), .second, .val (.long vc), .second, .val (.ref b44), .val (.ref b57), .val (.int (0 : Int32)), .unset] []) G
        refine Gl.via (fun _ k => XS.iconst X75.here hx rfl (hb hby at_187) k) ?_
        show Gl p.tables e below T75 (mkF m 188 #[.val (.int p0), .val (.int p1), .val (.int p2), .val (.int p3), .val (.int p4), .val (.int p5), .val (.int (1 : Int32)), .val (.double (4463067230724161536 : UInt64)), .second, .val (.long (4 : Int64)), .second, .val (.long vb), .second, .val (.long va), .second, .val (.long vu), .second, .val (.long vt), .second, .val (.long vc), .second, .val (.ref b44), .val (.ref b57), .val (.int (0 : Int32)), .unset] [(.int (0 : Int32))]) G
        refine Gl.via (fun _ k => XS.istore X75.here hx rfl (hb hby at_188) rfl (l' := #[.val (.int p0), .val (.int p1), .val (.int p2), .val (.int p3), .val (.int p4), .val (.int p5), .val (.int (1 : Int32)), .val (.double (4463067230724161536 : UInt64)), .second, .val (.long (4 : Int64)), .second, .val (.long vb), .second, .val (.long va), .second, .val (.long vu), .second, .val (.long vt), .second, .val (.long vc), .second, .val (.ref b44), .val (.ref b57), .val (.int (0 : Int32)), .val (.int (0 : Int32))]) rfl k) ?_
        show Gl p.tables e below T75 (mkF m 190 #[.val (.int p0), .val (.int p1), .val (.int p2), .val (.int p3), .val (.int p4), .val (.int p5), .val (.int (1 : Int32)), .val (.double (4463067230724161536 : UInt64)), .second, .val (.long (4 : Int64)), .second, .val (.long vb), .second, .val (.long va), .second, .val (.long vu), .second, .val (.long vt), .second, .val (.long vc), .second, .val (.ref b44), .val (.ref b57), .val (.int (0 : Int32)), .val (.int (0 : Int32))] []) G
        refine Gl.via (fun _ k => XS.iload X75.here hx rfl (hb hby at_190) rfl k) ?_
        show Gl p.tables e below T75 (mkF m 192 #[.val (.int p0), .val (.int p1), .val (.int p2), .val (.int p3), .val (.int p4), .val (.int p5), .val (.int (1 : Int32)), .val (.double (4463067230724161536 : UInt64)), .second, .val (.long (4 : Int64)), .second, .val (.long vb), .second, .val (.long va), .second, .val (.long vu), .second, .val (.long vt), .second, .val (.long vc), .second, .val (.ref b44), .val (.ref b57), .val (.int (0 : Int32)), .val (.int (0 : Int32))] [(.int (0 : Int32))]) G
        refine Gl.via (fun _ k => XS.iload X75.here hx rfl (hb hby at_192) rfl k) ?_
        show Gl p.tables e below T75 (mkF m 194 #[.val (.int p0), .val (.int p1), .val (.int p2), .val (.int p3), .val (.int p4), .val (.int p5), .val (.int (1 : Int32)), .val (.double (4463067230724161536 : UInt64)), .second, .val (.long (4 : Int64)), .second, .val (.long vb), .second, .val (.long va), .second, .val (.long vu), .second, .val (.long vt), .second, .val (.long vc), .second, .val (.ref b44), .val (.ref b57), .val (.int (0 : Int32)), .val (.int (0 : Int32))] [(.int (0 : Int32)), (.int (0 : Int32))]) G
        refine Gl.via (fun _ k => XS.icmpNo X75.here hx rfl (hb hby at_194) rfl (teq (by decide)).2 k) ?_
        show Gl p.tables e below T75 (mkF m 197 #[.val (.int p0), .val (.int p1), .val (.int p2), .val (.int p3), .val (.int p4), .val (.int p5), .val (.int (1 : Int32)), .val (.double (4463067230724161536 : UInt64)), .second, .val (.long (4 : Int64)), .second, .val (.long vb), .second, .val (.long va), .second, .val (.long vu), .second, .val (.long vt), .second, .val (.long vc), .second, .val (.ref b44), .val (.ref b57), .val (.int (0 : Int32)), .val (.int (0 : Int32))] []) G
        refine Gl.via (fun _ k => XS.iconst X75.here hx rfl (hb hby at_197) k) ?_
        show Gl p.tables e below T75 (mkF m 198 #[.val (.int p0), .val (.int p1), .val (.int p2), .val (.int p3), .val (.int p4), .val (.int p5), .val (.int (1 : Int32)), .val (.double (4463067230724161536 : UInt64)), .second, .val (.long (4 : Int64)), .second, .val (.long vb), .second, .val (.long va), .second, .val (.long vu), .second, .val (.long vt), .second, .val (.long vc), .second, .val (.ref b44), .val (.ref b57), .val (.int (0 : Int32)), .val (.int (0 : Int32))] [(.int (1 : Int32))]) G
        refine Gl.via (fun _ k => XS.goto X75.here hx rfl (pc0 := 198) (pc' := 202) rfl (hb hby at_198) (by decide) (by decide) k) ?_
        show Gl p.tables e below T75 (mkF m 202 #[.val (.int p0), .val (.int p1), .val (.int p2), .val (.int p3), .val (.int p4), .val (.int p5), .val (.int (1 : Int32)), .val (.double (4463067230724161536 : UInt64)), .second, .val (.long (4 : Int64)), .second, .val (.long vb), .second, .val (.long va), .second, .val (.long vu), .second, .val (.long vt), .second, .val (.long vc), .second, .val (.ref b44), .val (.ref b57), .val (.int (0 : Int32)), .val (.int (0 : Int32))] [(.int (1 : Int32))]) G
        obtain ⟨fs, hr, hrun, hended, hW, hsame⟩ := X75.leave (v := some (.int (1 : Int32))) (fun h => by rw [Bd.returns] at h; cases h)
        have hq : ∀ L, Fr n0 L → Q_rm0 Z p0 p1 p2 p3 p4 p5 h0 n0 (some (.int (1 : Int32))) T75.heap L := by
          intro L hN
          rw [eh75]
          exact ⟨rfl, hN⟩
        rw [hG]
        exact Gl.fin (retN X75 hx (t := .boolean) Bd.returns (by simp) (hb hby at_202) hr) ⟨_, hrun, hended, _, _, rfl, hq _ N75_, ⟨_, rfl⟩, hW, hsame.mono (by decide) (by decide)⟩
      · by_cases e3 : vt.toInt < vu.toInt - vc.toInt
        · have G80 : Fld Z T65.heap b44 "com/example/sortie/sortie/solver/Cost" "value" "D" (.double (FP.dmul (FP.l2d va) (4463067230724161536 : UInt64))) := ((P53.ext E57).keep K65 (ninS ne58 nin0))
          have G81 : Fld Z T65.heap b44 "com/example/sortie/sortie/solver/Cost" "tieBreak" "D" (.double (FP.dmul (FP.l2d vt) (4463067230724161536 : UInt64))) := ((P54.ext E57).keep K65 (ninS ne58 nin0))
          have G82 : Exa Z T65.heap b44 "com/example/sortie/sortie/solver/Cost" := ((P52.ext E57).keep K65)
          obtain ⟨cq79, kq79, q79a, q79b, q79c⟩ := isOf hZ rfl G82
          obtain ⟨_, _, ⟨T79, L79, k79, n79⟩, -, X79, ⟨Lc79, hQ79, l79, y79, z79⟩, st79⟩ := X65.virtualBack hx (y := (⟨"com/example/sortie/sortie/solver/Cost", "below", "(Lcom/example/sortie/sortie/solver/Cost;D)Z"⟩ : MethodName)) (z := (⟨"com/example/sortie/sortie/solver/Cost", "below", "(Lcom/example/sortie/sortie/solver/Cost;D)Z"⟩ : MethodName)) hown (mvT hZ (hw _ (List.mem_of_getElem? (i := 20) rfl))) (mvT hZ (hw _ (List.mem_of_getElem? (i := 21) rfl))) (notFace_of_selects (args := #[]) (mvT hZ (hw _ (List.mem_of_getElem? (i := 23) rfl)))) (mvT hZ (hw _ (List.mem_of_getElem? (i := 23) rfl))) (mvT hZ (hw _ (List.mem_of_getElem? (i := 22) rfl))) (by decide) (backOf (W := 0) (b1b l Z a0 hw [] b44 b57 (FP.dmul (FP.l2d vc) (4463067230724161536 : UInt64)) (FP.dmul (FP.l2d va) (4463067230724161536 : UInt64)) (FP.dmul (FP.l2d vb) (4463067230724161536 : UInt64)) (FP.dmul (FP.l2d vt) (4463067230724161536 : UInt64)) (FP.dmul (FP.l2d vu) (4463067230724161536 : UInt64)) T65.heap n0 Z69 G80 P67 G81 P68 m1 k2.1 m3 (fun q => e1 (k1.mp q)) (fun q => e2 (k2.2.mp q)) (k3.mpr e3)) hZ (hw _ (List.mem_of_getElem? (i := 24) rfl)) (hw _ (List.mem_of_getElem? (i := 4) rfl)) (by decide) (by decide)) q79a q79c (g := (mkF m 145 #[.val (.int p0), .val (.int p1), .val (.int p2), .val (.int p3), .val (.int p4), .val (.int p5), .val (.int (1 : Int32)), .val (.double (4463067230724161536 : UInt64)), .second, .val (.long (4 : Int64)), .second, .val (.long vb), .second, .val (.long va), .second, .val (.long vu), .second, .val (.long vt), .second, .val (.long vc), .second, .val (.ref b44), .val (.ref b57), .unset, .unset] [(.double (FP.dmul (FP.l2d vc) (4463067230724161536 : UInt64))), (.ref b57), (.ref b44)])) rfl (by rw [hml]; rfl) (Steps.refl _) (argsL := [(.ref b57), (.double (FP.dmul (FP.l2d vc) (4463067230724161536 : UInt64)))]) (rest := []) (lenOf pd_2 rfl) rfl (by show 2 * 0 + _ ≤ _; exact Nat.le_of_eq rfl) (hb hby at_145) (fun _ _ => ⟨rfl, rfl, (by decide : 2 + 0 ≤ _), (by decide : 4 + 0 ≤ _)⟩)
          dsimp only [Pt.U, Pt.locs, Pt.cells, Pt.slots] at X79 l79 y79 z79 st79 hQ79
          subst l79 y79 z79
          obtain ⟨rfl, N79q, eh79⟩ := hQ79
          have N79_ := Fr.app N65_ N79q
          refine Gl.via (fun _ k => st79.trans k) ?_
          show Gl p.tables e below T79 (mkF m 148 #[.val (.int p0), .val (.int p1), .val (.int p2), .val (.int p3), .val (.int p4), .val (.int p5), .val (.int (1 : Int32)), .val (.double (4463067230724161536 : UInt64)), .second, .val (.long (4 : Int64)), .second, .val (.long vb), .second, .val (.long va), .second, .val (.long vu), .second, .val (.long vt), .second, .val (.long vc), .second, .val (.ref b44), .val (.ref b57), .unset, .unset] [(.int (1 : Int32))]) G
          refine Gl.via (fun _ k => XS.istore X79.here hx rfl (hb hby at_148) rfl (l' := #[.val (.int p0), .val (.int p1), .val (.int p2), .val (.int p3), .val (.int p4), .val (.int p5), .val (.int (1 : Int32)), .val (.double (4463067230724161536 : UInt64)), .second, .val (.long (4 : Int64)), .second, .val (.long vb), .second, .val (.long va), .second, .val (.long vu), .second, .val (.long vt), .second, .val (.long vc), .second, .val (.ref b44), .val (.ref b57), .val (.int (1 : Int32)), .unset]) rfl k) ?_
          show Gl p.tables e below T79 (mkF m 150 #[.val (.int p0), .val (.int p1), .val (.int p2), .val (.int p3), .val (.int p4), .val (.int p5), .val (.int (1 : Int32)), .val (.double (4463067230724161536 : UInt64)), .second, .val (.long (4 : Int64)), .second, .val (.long vb), .second, .val (.long va), .second, .val (.long vu), .second, .val (.long vt), .second, .val (.long vc), .second, .val (.ref b44), .val (.ref b57), .val (.int (1 : Int32)), .unset] []) G
          refine Gl.via (fun _ k => XS.lload X79.here hx rfl (hb hby at_150) rfl k) ?_
          show Gl p.tables e below T79 (mkF m 152 #[.val (.int p0), .val (.int p1), .val (.int p2), .val (.int p3), .val (.int p4), .val (.int p5), .val (.int (1 : Int32)), .val (.double (4463067230724161536 : UInt64)), .second, .val (.long (4 : Int64)), .second, .val (.long vb), .second, .val (.long va), .second, .val (.long vu), .second, .val (.long vt), .second, .val (.long vc), .second, .val (.ref b44), .val (.ref b57), .val (.int (1 : Int32)), .unset] [(.long va)]) G
          refine Gl.via (fun _ k => XS.lload X79.here hx rfl (hb hby at_152) rfl k) ?_
          show Gl p.tables e below T79 (mkF m 154 #[.val (.int p0), .val (.int p1), .val (.int p2), .val (.int p3), .val (.int p4), .val (.int p5), .val (.int (1 : Int32)), .val (.double (4463067230724161536 : UInt64)), .second, .val (.long (4 : Int64)), .second, .val (.long vb), .second, .val (.long va), .second, .val (.long vu), .second, .val (.long vt), .second, .val (.long vc), .second, .val (.ref b44), .val (.ref b57), .val (.int (1 : Int32)), .unset] [(.long vb), (.long va)]) G
          refine Gl.via (fun _ k => XS.lload X79.here hx rfl (hb hby at_154) rfl k) ?_
          show Gl p.tables e below T79 (mkF m 156 #[.val (.int p0), .val (.int p1), .val (.int p2), .val (.int p3), .val (.int p4), .val (.int p5), .val (.int (1 : Int32)), .val (.double (4463067230724161536 : UInt64)), .second, .val (.long (4 : Int64)), .second, .val (.long vb), .second, .val (.long va), .second, .val (.long vu), .second, .val (.long vt), .second, .val (.long vc), .second, .val (.ref b44), .val (.ref b57), .val (.int (1 : Int32)), .unset] [(.long vc), (.long vb), (.long va)]) G
          refine Gl.via (fun _ k => XS.lsub X79.here hx rfl (hb hby at_156) rfl k) ?_
          show Gl p.tables e below T79 (mkF m 157 #[.val (.int p0), .val (.int p1), .val (.int p2), .val (.int p3), .val (.int p4), .val (.int p5), .val (.int (1 : Int32)), .val (.double (4463067230724161536 : UInt64)), .second, .val (.long (4 : Int64)), .second, .val (.long vb), .second, .val (.long va), .second, .val (.long vu), .second, .val (.long vt), .second, .val (.long vc), .second, .val (.ref b44), .val (.ref b57), .val (.int (1 : Int32)), .unset] [(.long (vb - vc)), (.long va)]) G
          refine Gl.via (fun _ k => XS.lcmp X79.here hx rfl (hb hby at_157) rfl k) ?_
          show Gl p.tables e below T79 (mkF m 158 #[.val (.int p0), .val (.int p1), .val (.int p2), .val (.int p3), .val (.int p4), .val (.int p5), .val (.int (1 : Int32)), .val (.double (4463067230724161536 : UInt64)), .second, .val (.long (4 : Int64)), .second, .val (.long vb), .second, .val (.long va), .second, .val (.long vu), .second, .val (.long vt), .second, .val (.long vc), .second, .val (.ref b44), .val (.ref b57), .val (.int (1 : Int32)), .unset] [(.int (lcmpW va (vb - vc)))]) G
          refine Gl.via (fun _ k => XS.ifNo X79.here hx rfl (hb hby at_158) rfl ((if0 _ _).trans (flt (fun q => e1 ((own_ls hB hC).mp q))).1) k) ?_
          show Gl p.tables e below T79 (mkF m 161 #[.val (.int p0), .val (.int p1), .val (.int p2), .val (.int p3), .val (.int p4), .val (.int p5), .val (.int (1 : Int32)), .val (.double (4463067230724161536 : UInt64)), .second, .val (.long (4 : Int64)), .second, .val (.long vb), .second, .val (.long va), .second, .val (.long vu), .second, .val (.long vt), .second, .val (.long vc), .second, .val (.ref b44), .val (.ref b57), .val (.int (1 : Int32)), .unset] []) G
          refine Gl.via (fun _ k => XS.lload X79.here hx rfl (hb hby at_161) rfl k) ?_
          show Gl p.tables e below T79 (mkF m 163 #[.val (.int p0), .val (.int p1), .val (.int p2), .val (.int p3), .val (.int p4), .val (.int p5), .val (.int (1 : Int32)), .val (.double (4463067230724161536 : UInt64)), .second, .val (.long (4 : Int64)), .second, .val (.long vb), .second, .val (.long va), .second, .val (.long vu), .second, .val (.long vt), .second, .val (.long vc), .second, .val (.ref b44), .val (.ref b57), .val (.int (1 : Int32)), .unset] [(.long va)]) G
          refine Gl.via (fun _ k => XS.lload X79.here hx rfl (hb hby at_163) rfl k) ?_
          show Gl p.tables e below T79 (mkF m 165 #[.val (.int p0), .val (.int p1), .val (.int p2), .val (.int p3), .val (.int p4), .val (.int p5), .val (.int (1 : Int32)), .val (.double (4463067230724161536 : UInt64)), .second, .val (.long (4 : Int64)), .second, .val (.long vb), .second, .val (.long va), .second, .val (.long vu), .second, .val (.long vt), .second, .val (.long vc), .second, .val (.ref b44), .val (.ref b57), .val (.int (1 : Int32)), .unset] [(.long vb), (.long va)]) G
          refine Gl.via (fun _ k => XS.lload X79.here hx rfl (hb hby at_165) rfl k) ?_
          show Gl p.tables e below T79 (mkF m 167 #[.val (.int p0), .val (.int p1), .val (.int p2), .val (.int p3), .val (.int p4), .val (.int p5), .val (.int (1 : Int32)), .val (.double (4463067230724161536 : UInt64)), .second, .val (.long (4 : Int64)), .second, .val (.long vb), .second, .val (.long va), .second, .val (.long vu), .second, .val (.long vt), .second, .val (.long vc), .second, .val (.ref b44), .val (.ref b57), .val (.int (1 : Int32)), .unset] [(.long (4 : Int64)), (.long vb), (.long va)]) G
          refine Gl.via (fun _ k => XS.ladd X79.here hx rfl (hb hby at_167) rfl k) ?_
          show Gl p.tables e below T79 (mkF m 168 #[.val (.int p0), .val (.int p1), .val (.int p2), .val (.int p3), .val (.int p4), .val (.int p5), .val (.int (1 : Int32)), .val (.double (4463067230724161536 : UInt64)), .second, .val (.long (4 : Int64)), .second, .val (.long vb), .second, .val (.long va), .second, .val (.long vu), .second, .val (.long vt), .second, .val (.long vc), .second, .val (.ref b44), .val (.ref b57), .val (.int (1 : Int32)), .unset] [(.long (vb + (4 : Int64))), (.long va)]) G
          refine Gl.via (fun _ k => XS.lcmp X79.here hx rfl (hb hby at_168) rfl k) ?_
          show Gl p.tables e below T79 (mkF m 169 #[.val (.int p0), .val (.int p1), .val (.int p2), .val (.int p3), .val (.int p4), .val (.int p5), .val (.int (1 : Int32)), .val (.double (4463067230724161536 : UInt64)), .second, .val (.long (4 : Int64)), .second, .val (.long vb), .second, .val (.long va), .second, .val (.long vu), .second, .val (.long vt), .second, .val (.long vc), .second, .val (.ref b44), .val (.ref b57), .val (.int (1 : Int32)), .unset] [(.int (lcmpW va (vb + (4 : Int64))))]) G
          refine Gl.via (fun _ k => XS.ifNo X79.here hx rfl (hb hby at_169) rfl ((if0 _ _).trans (flt (fun q => e2 ((own_la hB (by decide : (4 : Int64).toInt = 4) (by decide)).mp q))).2.2.1) k) ?_
          show Gl p.tables e below T79 (mkF m 172 #[.val (.int p0), .val (.int p1), .val (.int p2), .val (.int p3), .val (.int p4), .val (.int p5), .val (.int (1 : Int32)), .val (.double (4463067230724161536 : UInt64)), .second, .val (.long (4 : Int64)), .second, .val (.long vb), .second, .val (.long va), .second, .val (.long vu), .second, .val (.long vt), .second, .val (.long vc), .second, .val (.ref b44), .val (.ref b57), .val (.int (1 : Int32)), .unset] []) G
          refine Gl.via (fun _ k => XS.lload X79.here hx rfl (hb hby at_172) rfl k) ?_
          show Gl p.tables e below T79 (mkF m 174 #[.val (.int p0), .val (.int p1), .val (.int p2), .val (.int p3), .val (.int p4), .val (.int p5), .val (.int (1 : Int32)), .val (.double (4463067230724161536 : UInt64)), .second, .val (.long (4 : Int64)), .second, .val (.long vb), .second, .val (.long va), .second, .val (.long vu), .second, .val (.long vt), .second, .val (.long vc), .second, .val (.ref b44), .val (.ref b57), .val (.int (1 : Int32)), .unset] [(.long vt)]) G
          refine Gl.via (fun _ k => XS.lload X79.here hx rfl (hb hby at_174) rfl k) ?_
          show Gl p.tables e below T79 (mkF m 176 #[.val (.int p0), .val (.int p1), .val (.int p2), .val (.int p3), .val (.int p4), .val (.int p5), .val (.int (1 : Int32)), .val (.double (4463067230724161536 : UInt64)), .second, .val (.long (4 : Int64)), .second, .val (.long vb), .second, .val (.long va), .second, .val (.long vu), .second, .val (.long vt), .second, .val (.long vc), .second, .val (.ref b44), .val (.ref b57), .val (.int (1 : Int32)), .unset] [(.long vu), (.long vt)]) G
          refine Gl.via (fun _ k => XS.lload X79.here hx rfl (hb hby at_176) rfl k) ?_
          show Gl p.tables e below T79 (mkF m 178 #[.val (.int p0), .val (.int p1), .val (.int p2), .val (.int p3), .val (.int p4), .val (.int p5), .val (.int (1 : Int32)), .val (.double (4463067230724161536 : UInt64)), .second, .val (.long (4 : Int64)), .second, .val (.long vb), .second, .val (.long va), .second, .val (.long vu), .second, .val (.long vt), .second, .val (.long vc), .second, .val (.ref b44), .val (.ref b57), .val (.int (1 : Int32)), .unset] [(.long vc), (.long vu), (.long vt)]) G
          refine Gl.via (fun _ k => XS.lsub X79.here hx rfl (hb hby at_178) rfl k) ?_
          show Gl p.tables e below T79 (mkF m 179 #[.val (.int p0), .val (.int p1), .val (.int p2), .val (.int p3), .val (.int p4), .val (.int p5), .val (.int (1 : Int32)), .val (.double (4463067230724161536 : UInt64)), .second, .val (.long (4 : Int64)), .second, .val (.long vb), .second, .val (.long va), .second, .val (.long vu), .second, .val (.long vt), .second, .val (.long vc), .second, .val (.ref b44), .val (.ref b57), .val (.int (1 : Int32)), .unset] [(.long (vu - vc)), (.long vt)]) G
          refine Gl.via (fun _ k => XS.lcmp X79.here hx rfl (hb hby at_179) rfl k) ?_
          show Gl p.tables e below T79 (mkF m 180 #[.val (.int p0), .val (.int p1), .val (.int p2), .val (.int p3), .val (.int p4), .val (.int p5), .val (.int (1 : Int32)), .val (.double (4463067230724161536 : UInt64)), .second, .val (.long (4 : Int64)), .second, .val (.long vb), .second, .val (.long va), .second, .val (.long vu), .second, .val (.long vt), .second, .val (.long vc), .second, .val (.ref b44), .val (.ref b57), .val (.int (1 : Int32)), .unset] [(.int (lcmpW vt (vu - vc)))]) G
          refine Gl.via (fun _ k => XS.ifNo X79.here hx rfl (hb hby at_180) rfl ((if0 _ _).trans (tlt ((own_ls hTB hC).mpr e3)).2.1) k) ?_
          show Gl p.tables e below T79 (mkF m 183 #[.val (.int p0), .val (.int p1), .val (.int p2), .val (.int p3), .val (.int p4), .val (.int p5), .val (.int (1 : Int32)), .val (.double (4463067230724161536 : UInt64)), .second, .val (.long (4 : Int64)), .second, .val (.long vb), .second, .val (.long va), .second, .val (.long vu), .second, .val (.long vt), .second, .val (.long vc), .second, .val (.ref b44), .val (.ref b57), .val (.int (1 : Int32)), .unset] []) G
          refine Gl.via (fun _ k => XS.iconst X79.here hx rfl (hb hby at_183) k) ?_
          show Gl p.tables e below T79 (mkF m 184 #[.val (.int p0), .val (.int p1), .val (.int p2), .val (.int p3), .val (.int p4), .val (.int p5), .val (.int (1 : Int32)), .val (.double (4463067230724161536 : UInt64)), .second, .val (.long (4 : Int64)), .second, .val (.long vb), .second, .val (.long va), .second, .val (.long vu), .second, .val (.long vt), .second, .val (.long vc), .second, .val (.ref b44), .val (.ref b57), .val (.int (1 : Int32)), .unset] [(.int (1 : Int32))]) G
          refine Gl.via (fun _ k => XS.goto X79.here hx rfl (pc0 := 184) (pc' := 188) rfl (hb hby at_184) (by decide) (by decide) k) ?_
          show Gl p.tables e below T79 (mkF m 188 #[.val (.int p0), .val (.int p1), .val (.int p2), .val (.int p3), .val (.int p4), .val (.int p5), .val (.int (1 : Int32)), .val (.double (4463067230724161536 : UInt64)), .second, .val (.long (4 : Int64)), .second, .val (.long vb), .second, .val (.long va), .second, .val (.long vu), .second, .val (.long vt), .second, .val (.long vc), .second, .val (.ref b44), .val (.ref b57), .val (.int (1 : Int32)), .unset] [(.int (1 : Int32))]) G
          refine Gl.via (fun _ k => XS.istore X79.here hx rfl (hb hby at_188) rfl (l' := #[.val (.int p0), .val (.int p1), .val (.int p2), .val (.int p3), .val (.int p4), .val (.int p5), .val (.int (1 : Int32)), .val (.double (4463067230724161536 : UInt64)), .second, .val (.long (4 : Int64)), .second, .val (.long vb), .second, .val (.long va), .second, .val (.long vu), .second, .val (.long vt), .second, .val (.long vc), .second, .val (.ref b44), .val (.ref b57), .val (.int (1 : Int32)), .val (.int (1 : Int32))]) rfl k) ?_
          show Gl p.tables e below T79 (mkF m 190 #[.val (.int p0), .val (.int p1), .val (.int p2), .val (.int p3), .val (.int p4), .val (.int p5), .val (.int (1 : Int32)), .val (.double (4463067230724161536 : UInt64)), .second, .val (.long (4 : Int64)), .second, .val (.long vb), .second, .val (.long va), .second, .val (.long vu), .second, .val (.long vt), .second, .val (.long vc), .second, .val (.ref b44), .val (.ref b57), .val (.int (1 : Int32)), .val (.int (1 : Int32))] []) G
          refine Gl.via (fun _ k => XS.iload X79.here hx rfl (hb hby at_190) rfl k) ?_
          show Gl p.tables e below T79 (mkF m 192 #[.val (.int p0), .val (.int p1), .val (.int p2), .val (.int p3), .val (.int p4), .val (.int p5), .val (.int (1 : Int32)), .val (.double (4463067230724161536 : UInt64)), .second, .val (.long (4 : Int64)), .second, .val (.long vb), .second, .val (.long va), .second, .val (.long vu), .second, .val (.long vt), .second, .val (.long vc), .second, .val (.ref b44), .val (.ref b57), .val (.int (1 : Int32)), .val (.int (1 : Int32))] [(.int (1 : Int32))]) G
          refine Gl.via (fun _ k => XS.iload X79.here hx rfl (hb hby at_192) rfl k) ?_
          show Gl p.tables e below T79 (mkF m 194 #[.val (.int p0), .val (.int p1), .val (.int p2), .val (.int p3), .val (.int p4), .val (.int p5), .val (.int (1 : Int32)), .val (.double (4463067230724161536 : UInt64)), .second, .val (.long (4 : Int64)), .second, .val (.long vb), .second, .val (.long va), .second, .val (.long vu), .second, .val (.long vt), .second, .val (.long vc), .second, .val (.ref b44), .val (.ref b57), .val (.int (1 : Int32)), .val (.int (1 : Int32))] [(.int (1 : Int32)), (.int (1 : Int32))]) G
          refine Gl.via (fun _ k => XS.icmpNo X79.here hx rfl (hb hby at_194) rfl (teq (by decide)).2 k) ?_
          show Gl p.tables e below T79 (mkF m 197 #[.val (.int p0), .val (.int p1), .val (.int p2), .val (.int p3), .val (.int p4), .val (.int p5), .val (.int (1 : Int32)), .val (.double (4463067230724161536 : UInt64)), .second, .val (.long (4 : Int64)), .second, .val (.long vb), .second, .val (.long va), .second, .val (.long vu), .second, .val (.long vt), .second, .val (.long vc), .second, .val (.ref b44), .val (.ref b57), .val (.int (1 : Int32)), .val (.int (1 : Int32))] []) G
          refine Gl.via (fun _ k => XS.iconst X79.here hx rfl (hb hby at_197) k) ?_
          show Gl p.tables e below T79 (mkF m 198 #[.val (.int p0), .val (.int p1), .val (.int p2), .val (.int p3), .val (.int p4), .val (.int p5), .val (.int (1 : Int32)), .val (.double (4463067230724161536 : UInt64)), .second, .val (.long (4 : Int64)), .second, .val (.long vb), .second, .val (.long va), .second, .val (.long vu), .second, .val (.long vt), .second, .val (.long vc), .second, .val (.ref b44), .val (.ref b57), .val (.int (1 : Int32)), .val (.int (1 : Int32))] [(.int (1 : Int32))]) G
          refine Gl.via (fun _ k => XS.goto X79.here hx rfl (pc0 := 198) (pc' := 202) rfl (hb hby at_198) (by decide) (by decide) k) ?_
          show Gl p.tables e below T79 (mkF m 202 #[.val (.int p0), .val (.int p1), .val (.int p2), .val (.int p3), .val (.int p4), .val (.int p5), .val (.int (1 : Int32)), .val (.double (4463067230724161536 : UInt64)), .second, .val (.long (4 : Int64)), .second, .val (.long vb), .second, .val (.long va), .second, .val (.long vu), .second, .val (.long vt), .second, .val (.long vc), .second, .val (.ref b44), .val (.ref b57), .val (.int (1 : Int32)), .val (.int (1 : Int32))] [(.int (1 : Int32))]) G
          obtain ⟨fs, hr, hrun, hended, hW, hsame⟩ := X79.leave (v := some (.int (1 : Int32))) (fun h => by rw [Bd.returns] at h; cases h)
          have hq : ∀ L, Fr n0 L → Q_rm0 Z p0 p1 p2 p3 p4 p5 h0 n0 (some (.int (1 : Int32))) T79.heap L := by
            intro L hN
            rw [eh79]
            exact ⟨rfl, hN⟩
          rw [hG]
          exact Gl.fin (retN X79 hx (t := .boolean) Bd.returns (by simp) (hb hby at_202) hr) ⟨_, hrun, hended, _, _, rfl, hq _ N79_, ⟨_, rfl⟩, hW, hsame.mono (by decide) (by decide)⟩
        · have G84 : Fld Z T65.heap b44 "com/example/sortie/sortie/solver/Cost" "value" "D" (.double (FP.dmul (FP.l2d va) (4463067230724161536 : UInt64))) := ((P53.ext E57).keep K65 (ninS ne58 nin0))
          have G85 : Fld Z T65.heap b44 "com/example/sortie/sortie/solver/Cost" "tieBreak" "D" (.double (FP.dmul (FP.l2d vt) (4463067230724161536 : UInt64))) := ((P54.ext E57).keep K65 (ninS ne58 nin0))
          have G86 : Exa Z T65.heap b44 "com/example/sortie/sortie/solver/Cost" := ((P52.ext E57).keep K65)
          obtain ⟨cq83, kq83, q83a, q83b, q83c⟩ := isOf hZ rfl G86
          obtain ⟨_, _, ⟨T83, L83, k83, n83⟩, -, X83, ⟨Lc83, hQ83, l83, y83, z83⟩, st83⟩ := X65.virtualBack hx (y := (⟨"com/example/sortie/sortie/solver/Cost", "below", "(Lcom/example/sortie/sortie/solver/Cost;D)Z"⟩ : MethodName)) (z := (⟨"com/example/sortie/sortie/solver/Cost", "below", "(Lcom/example/sortie/sortie/solver/Cost;D)Z"⟩ : MethodName)) hown (mvT hZ (hw _ (List.mem_of_getElem? (i := 20) rfl))) (mvT hZ (hw _ (List.mem_of_getElem? (i := 21) rfl))) (notFace_of_selects (args := #[]) (mvT hZ (hw _ (List.mem_of_getElem? (i := 23) rfl)))) (mvT hZ (hw _ (List.mem_of_getElem? (i := 23) rfl))) (mvT hZ (hw _ (List.mem_of_getElem? (i := 22) rfl))) (by decide) (backOf (W := 0) (b0b l Z a0 hw [] b44 b57 (FP.dmul (FP.l2d vc) (4463067230724161536 : UInt64)) (FP.dmul (FP.l2d va) (4463067230724161536 : UInt64)) (FP.dmul (FP.l2d vb) (4463067230724161536 : UInt64)) (FP.dmul (FP.l2d vt) (4463067230724161536 : UInt64)) (FP.dmul (FP.l2d vu) (4463067230724161536 : UInt64)) T65.heap n0 Z69 G84 P67 G85 P68 m1 k2.1 m3 (fun q => e1 (k1.mp q)) (fun q => e2 (k2.2.mp q)) (fun q => e3 (k3.mp q))) hZ (hw _ (List.mem_of_getElem? (i := 24) rfl)) (hw _ (List.mem_of_getElem? (i := 4) rfl)) (by decide) (by decide)) q83a q83c (g := (mkF m 145 #[.val (.int p0), .val (.int p1), .val (.int p2), .val (.int p3), .val (.int p4), .val (.int p5), .val (.int (1 : Int32)), .val (.double (4463067230724161536 : UInt64)), .second, .val (.long (4 : Int64)), .second, .val (.long vb), .second, .val (.long va), .second, .val (.long vu), .second, .val (.long vt), .second, .val (.long vc), .second, .val (.ref b44), .val (.ref b57), .unset, .unset] [(.double (FP.dmul (FP.l2d vc) (4463067230724161536 : UInt64))), (.ref b57), (.ref b44)])) rfl (by rw [hml]; rfl) (Steps.refl _) (argsL := [(.ref b57), (.double (FP.dmul (FP.l2d vc) (4463067230724161536 : UInt64)))]) (rest := []) (lenOf pd_2 rfl) rfl (by show 2 * 0 + _ ≤ _; exact Nat.le_of_eq rfl) (hb hby at_145) (fun _ _ => ⟨rfl, rfl, (by decide : 2 + 0 ≤ _), (by decide : 4 + 0 ≤ _)⟩)
          dsimp only [Pt.U, Pt.locs, Pt.cells, Pt.slots] at X83 l83 y83 z83 st83 hQ83
          subst l83 y83 z83
          obtain ⟨rfl, N83q, eh83⟩ := hQ83
          have N83_ := Fr.app N65_ N83q
          refine Gl.via (fun _ k => st83.trans k) ?_
          show Gl p.tables e below T83 (mkF m 148 #[.val (.int p0), .val (.int p1), .val (.int p2), .val (.int p3), .val (.int p4), .val (.int p5), .val (.int (1 : Int32)), .val (.double (4463067230724161536 : UInt64)), .second, .val (.long (4 : Int64)), .second, .val (.long vb), .second, .val (.long va), .second, .val (.long vu), .second, .val (.long vt), .second, .val (.long vc), .second, .val (.ref b44), .val (.ref b57), .unset, .unset] [(.int (0 : Int32))]) G
          refine Gl.via (fun _ k => XS.istore X83.here hx rfl (hb hby at_148) rfl (l' := #[.val (.int p0), .val (.int p1), .val (.int p2), .val (.int p3), .val (.int p4), .val (.int p5), .val (.int (1 : Int32)), .val (.double (4463067230724161536 : UInt64)), .second, .val (.long (4 : Int64)), .second, .val (.long vb), .second, .val (.long va), .second, .val (.long vu), .second, .val (.long vt), .second, .val (.long vc), .second, .val (.ref b44), .val (.ref b57), .val (.int (0 : Int32)), .unset]) rfl k) ?_
          show Gl p.tables e below T83 (mkF m 150 #[.val (.int p0), .val (.int p1), .val (.int p2), .val (.int p3), .val (.int p4), .val (.int p5), .val (.int (1 : Int32)), .val (.double (4463067230724161536 : UInt64)), .second, .val (.long (4 : Int64)), .second, .val (.long vb), .second, .val (.long va), .second, .val (.long vu), .second, .val (.long vt), .second, .val (.long vc), .second, .val (.ref b44), .val (.ref b57), .val (.int (0 : Int32)), .unset] []) G
          refine Gl.via (fun _ k => XS.lload X83.here hx rfl (hb hby at_150) rfl k) ?_
          show Gl p.tables e below T83 (mkF m 152 #[.val (.int p0), .val (.int p1), .val (.int p2), .val (.int p3), .val (.int p4), .val (.int p5), .val (.int (1 : Int32)), .val (.double (4463067230724161536 : UInt64)), .second, .val (.long (4 : Int64)), .second, .val (.long vb), .second, .val (.long va), .second, .val (.long vu), .second, .val (.long vt), .second, .val (.long vc), .second, .val (.ref b44), .val (.ref b57), .val (.int (0 : Int32)), .unset] [(.long va)]) G
          refine Gl.via (fun _ k => XS.lload X83.here hx rfl (hb hby at_152) rfl k) ?_
          show Gl p.tables e below T83 (mkF m 154 #[.val (.int p0), .val (.int p1), .val (.int p2), .val (.int p3), .val (.int p4), .val (.int p5), .val (.int (1 : Int32)), .val (.double (4463067230724161536 : UInt64)), .second, .val (.long (4 : Int64)), .second, .val (.long vb), .second, .val (.long va), .second, .val (.long vu), .second, .val (.long vt), .second, .val (.long vc), .second, .val (.ref b44), .val (.ref b57), .val (.int (0 : Int32)), .unset] [(.long vb), (.long va)]) G
          refine Gl.via (fun _ k => XS.lload X83.here hx rfl (hb hby at_154) rfl k) ?_
          show Gl p.tables e below T83 (mkF m 156 #[.val (.int p0), .val (.int p1), .val (.int p2), .val (.int p3), .val (.int p4), .val (.int p5), .val (.int (1 : Int32)), .val (.double (4463067230724161536 : UInt64)), .second, .val (.long (4 : Int64)), .second, .val (.long vb), .second, .val (.long va), .second, .val (.long vu), .second, .val (.long vt), .second, .val (.long vc), .second, .val (.ref b44), .val (.ref b57), .val (.int (0 : Int32)), .unset] [(.long vc), (.long vb), (.long va)]) G
          refine Gl.via (fun _ k => XS.lsub X83.here hx rfl (hb hby at_156) rfl k) ?_
          show Gl p.tables e below T83 (mkF m 157 #[.val (.int p0), .val (.int p1), .val (.int p2), .val (.int p3), .val (.int p4), .val (.int p5), .val (.int (1 : Int32)), .val (.double (4463067230724161536 : UInt64)), .second, .val (.long (4 : Int64)), .second, .val (.long vb), .second, .val (.long va), .second, .val (.long vu), .second, .val (.long vt), .second, .val (.long vc), .second, .val (.ref b44), .val (.ref b57), .val (.int (0 : Int32)), .unset] [(.long (vb - vc)), (.long va)]) G
          refine Gl.via (fun _ k => XS.lcmp X83.here hx rfl (hb hby at_157) rfl k) ?_
          show Gl p.tables e below T83 (mkF m 158 #[.val (.int p0), .val (.int p1), .val (.int p2), .val (.int p3), .val (.int p4), .val (.int p5), .val (.int (1 : Int32)), .val (.double (4463067230724161536 : UInt64)), .second, .val (.long (4 : Int64)), .second, .val (.long vb), .second, .val (.long va), .second, .val (.long vu), .second, .val (.long vt), .second, .val (.long vc), .second, .val (.ref b44), .val (.ref b57), .val (.int (0 : Int32)), .unset] [(.int (lcmpW va (vb - vc)))]) G
          refine Gl.via (fun _ k => XS.ifNo X83.here hx rfl (hb hby at_158) rfl ((if0 _ _).trans (flt (fun q => e1 ((own_ls hB hC).mp q))).1) k) ?_
          show Gl p.tables e below T83 (mkF m 161 #[.val (.int p0), .val (.int p1), .val (.int p2), .val (.int p3), .val (.int p4), .val (.int p5), .val (.int (1 : Int32)), .val (.double (4463067230724161536 : UInt64)), .second, .val (.long (4 : Int64)), .second, .val (.long vb), .second, .val (.long va), .second, .val (.long vu), .second, .val (.long vt), .second, .val (.long vc), .second, .val (.ref b44), .val (.ref b57), .val (.int (0 : Int32)), .unset] []) G
          refine Gl.via (fun _ k => XS.lload X83.here hx rfl (hb hby at_161) rfl k) ?_
          show Gl p.tables e below T83 (mkF m 163 #[.val (.int p0), .val (.int p1), .val (.int p2), .val (.int p3), .val (.int p4), .val (.int p5), .val (.int (1 : Int32)), .val (.double (4463067230724161536 : UInt64)), .second, .val (.long (4 : Int64)), .second, .val (.long vb), .second, .val (.long va), .second, .val (.long vu), .second, .val (.long vt), .second, .val (.long vc), .second, .val (.ref b44), .val (.ref b57), .val (.int (0 : Int32)), .unset] [(.long va)]) G
          refine Gl.via (fun _ k => XS.lload X83.here hx rfl (hb hby at_163) rfl k) ?_
          show Gl p.tables e below T83 (mkF m 165 #[.val (.int p0), .val (.int p1), .val (.int p2), .val (.int p3), .val (.int p4), .val (.int p5), .val (.int (1 : Int32)), .val (.double (4463067230724161536 : UInt64)), .second, .val (.long (4 : Int64)), .second, .val (.long vb), .second, .val (.long va), .second, .val (.long vu), .second, .val (.long vt), .second, .val (.long vc), .second, .val (.ref b44), .val (.ref b57), .val (.int (0 : Int32)), .unset] [(.long vb), (.long va)]) G
          refine Gl.via (fun _ k => XS.lload X83.here hx rfl (hb hby at_165) rfl k) ?_
          show Gl p.tables e below T83 (mkF m 167 #[.val (.int p0), .val (.int p1), .val (.int p2), .val (.int p3), .val (.int p4), .val (.int p5), .val (.int (1 : Int32)), .val (.double (4463067230724161536 : UInt64)), .second, .val (.long (4 : Int64)), .second, .val (.long vb), .second, .val (.long va), .second, .val (.long vu), .second, .val (.long vt), .second, .val (.long vc), .second, .val (.ref b44), .val (.ref b57), .val (.int (0 : Int32)), .unset] [(.long (4 : Int64)), (.long vb), (.long va)]) G
          refine Gl.via (fun _ k => XS.ladd X83.here hx rfl (hb hby at_167) rfl k) ?_
          show Gl p.tables e below T83 (mkF m 168 #[.val (.int p0), .val (.int p1), .val (.int p2), .val (.int p3), .val (.int p4), .val (.int p5), .val (.int (1 : Int32)), .val (.double (4463067230724161536 : UInt64)), .second, .val (.long (4 : Int64)), .second, .val (.long vb), .second, .val (.long va), .second, .val (.long vu), .second, .val (.long vt), .second, .val (.long vc), .second, .val (.ref b44), .val (.ref b57), .val (.int (0 : Int32)), .unset] [(.long (vb + (4 : Int64))), (.long va)]) G
          refine Gl.via (fun _ k => XS.lcmp X83.here hx rfl (hb hby at_168) rfl k) ?_
          show Gl p.tables e below T83 (mkF m 169 #[.val (.int p0), .val (.int p1), .val (.int p2), .val (.int p3), .val (.int p4), .val (.int p5), .val (.int (1 : Int32)), .val (.double (4463067230724161536 : UInt64)), .second, .val (.long (4 : Int64)), .second, .val (.long vb), .second, .val (.long va), .second, .val (.long vu), .second, .val (.long vt), .second, .val (.long vc), .second, .val (.ref b44), .val (.ref b57), .val (.int (0 : Int32)), .unset] [(.int (lcmpW va (vb + (4 : Int64))))]) G
          refine Gl.via (fun _ k => XS.ifNo X83.here hx rfl (hb hby at_169) rfl ((if0 _ _).trans (flt (fun q => e2 ((own_la hB (by decide : (4 : Int64).toInt = 4) (by decide)).mp q))).2.2.1) k) ?_
          show Gl p.tables e below T83 (mkF m 172 #[.val (.int p0), .val (.int p1), .val (.int p2), .val (.int p3), .val (.int p4), .val (.int p5), .val (.int (1 : Int32)), .val (.double (4463067230724161536 : UInt64)), .second, .val (.long (4 : Int64)), .second, .val (.long vb), .second, .val (.long va), .second, .val (.long vu), .second, .val (.long vt), .second, .val (.long vc), .second, .val (.ref b44), .val (.ref b57), .val (.int (0 : Int32)), .unset] []) G
          refine Gl.via (fun _ k => XS.lload X83.here hx rfl (hb hby at_172) rfl k) ?_
          show Gl p.tables e below T83 (mkF m 174 #[.val (.int p0), .val (.int p1), .val (.int p2), .val (.int p3), .val (.int p4), .val (.int p5), .val (.int (1 : Int32)), .val (.double (4463067230724161536 : UInt64)), .second, .val (.long (4 : Int64)), .second, .val (.long vb), .second, .val (.long va), .second, .val (.long vu), .second, .val (.long vt), .second, .val (.long vc), .second, .val (.ref b44), .val (.ref b57), .val (.int (0 : Int32)), .unset] [(.long vt)]) G
          refine Gl.via (fun _ k => XS.lload X83.here hx rfl (hb hby at_174) rfl k) ?_
          show Gl p.tables e below T83 (mkF m 176 #[.val (.int p0), .val (.int p1), .val (.int p2), .val (.int p3), .val (.int p4), .val (.int p5), .val (.int (1 : Int32)), .val (.double (4463067230724161536 : UInt64)), .second, .val (.long (4 : Int64)), .second, .val (.long vb), .second, .val (.long va), .second, .val (.long vu), .second, .val (.long vt), .second, .val (.long vc), .second, .val (.ref b44), .val (.ref b57), .val (.int (0 : Int32)), .unset] [(.long vu), (.long vt)]) G
          refine Gl.via (fun _ k => XS.lload X83.here hx rfl (hb hby at_176) rfl k) ?_
          show Gl p.tables e below T83 (mkF m 178 #[.val (.int p0), .val (.int p1), .val (.int p2), .val (.int p3), .val (.int p4), .val (.int p5), .val (.int (1 : Int32)), .val (.double (4463067230724161536 : UInt64)), .second, .val (.long (4 : Int64)), .second, .val (.long vb), .second, .val (.long va), .second, .val (.long vu), .second, .val (.long vt), .second, .val (.long vc), .second, .val (.ref b44), .val (.ref b57), .val (.int (0 : Int32)), .unset] [(.long vc), (.long vu), (.long vt)]) G
          refine Gl.via (fun _ k => XS.lsub X83.here hx rfl (hb hby at_178) rfl k) ?_
          show Gl p.tables e below T83 (mkF m 179 #[.val (.int p0), .val (.int p1), .val (.int p2), .val (.int p3), .val (.int p4), .val (.int p5), .val (.int (1 : Int32)), .val (.double (4463067230724161536 : UInt64)), .second, .val (.long (4 : Int64)), .second, .val (.long vb), .second, .val (.long va), .second, .val (.long vu), .second, .val (.long vt), .second, .val (.long vc), .second, .val (.ref b44), .val (.ref b57), .val (.int (0 : Int32)), .unset] [(.long (vu - vc)), (.long vt)]) G
          refine Gl.via (fun _ k => XS.lcmp X83.here hx rfl (hb hby at_179) rfl k) ?_
          show Gl p.tables e below T83 (mkF m 180 #[.val (.int p0), .val (.int p1), .val (.int p2), .val (.int p3), .val (.int p4), .val (.int p5), .val (.int (1 : Int32)), .val (.double (4463067230724161536 : UInt64)), .second, .val (.long (4 : Int64)), .second, .val (.long vb), .second, .val (.long va), .second, .val (.long vu), .second, .val (.long vt), .second, .val (.long vc), .second, .val (.ref b44), .val (.ref b57), .val (.int (0 : Int32)), .unset] [(.int (lcmpW vt (vu - vc)))]) G
          refine Gl.via (fun _ k => XS.ifYes X83.here hx rfl (pc0 := 180) (pc' := 187) rfl (hb hby at_180) rfl ((if0 _ _).trans (flt (fun q => e3 ((own_ls hTB hC).mp q))).2.1) (by decide) (by decide) k) ?_
          show Gl p.tables e below T83 (mkF m 187 #[.val (.int p0), .val (.int p1), .val (.int p2), .val (.int p3), .val (.int p4), .val (.int p5), .val (.int (1 : Int32)), .val (.double (4463067230724161536 : UInt64)), .second, .val (.long (4 : Int64)), .second, .val (.long vb), .second, .val (.long va), .second, .val (.long vu), .second, .val (.long vt), .second, .val (.long vc), .second, .val (.ref b44), .val (.ref b57), .val (.int (0 : Int32)), .unset] []) G
          refine Gl.via (fun _ k => XS.iconst X83.here hx rfl (hb hby at_187) k) ?_
          show Gl p.tables e below T83 (mkF m 188 #[.val (.int p0), .val (.int p1), .val (.int p2), .val (.int p3), .val (.int p4), .val (.int p5), .val (.int (1 : Int32)), .val (.double (4463067230724161536 : UInt64)), .second, .val (.long (4 : Int64)), .second, .val (.long vb), .second, .val (.long va), .second, .val (.long vu), .second, .val (.long vt), .second, .val (.long vc), .second, .val (.ref b44), .val (.ref b57), .val (.int (0 : Int32)), .unset] [(.int (0 : Int32))]) G
          refine Gl.via (fun _ k => XS.istore X83.here hx rfl (hb hby at_188) rfl (l' := #[.val (.int p0), .val (.int p1), .val (.int p2), .val (.int p3), .val (.int p4), .val (.int p5), .val (.int (1 : Int32)), .val (.double (4463067230724161536 : UInt64)), .second, .val (.long (4 : Int64)), .second, .val (.long vb), .second, .val (.long va), .second, .val (.long vu), .second, .val (.long vt), .second, .val (.long vc), .second, .val (.ref b44), .val (.ref b57), .val (.int (0 : Int32)), .val (.int (0 : Int32))]) rfl k) ?_
          show Gl p.tables e below T83 (mkF m 190 #[.val (.int p0), .val (.int p1), .val (.int p2), .val (.int p3), .val (.int p4), .val (.int p5), .val (.int (1 : Int32)), .val (.double (4463067230724161536 : UInt64)), .second, .val (.long (4 : Int64)), .second, .val (.long vb), .second, .val (.long va), .second, .val (.long vu), .second, .val (.long vt), .second, .val (.long vc), .second, .val (.ref b44), .val (.ref b57), .val (.int (0 : Int32)), .val (.int (0 : Int32))] []) G
          refine Gl.via (fun _ k => XS.iload X83.here hx rfl (hb hby at_190) rfl k) ?_
          show Gl p.tables e below T83 (mkF m 192 #[.val (.int p0), .val (.int p1), .val (.int p2), .val (.int p3), .val (.int p4), .val (.int p5), .val (.int (1 : Int32)), .val (.double (4463067230724161536 : UInt64)), .second, .val (.long (4 : Int64)), .second, .val (.long vb), .second, .val (.long va), .second, .val (.long vu), .second, .val (.long vt), .second, .val (.long vc), .second, .val (.ref b44), .val (.ref b57), .val (.int (0 : Int32)), .val (.int (0 : Int32))] [(.int (0 : Int32))]) G
          refine Gl.via (fun _ k => XS.iload X83.here hx rfl (hb hby at_192) rfl k) ?_
          show Gl p.tables e below T83 (mkF m 194 #[.val (.int p0), .val (.int p1), .val (.int p2), .val (.int p3), .val (.int p4), .val (.int p5), .val (.int (1 : Int32)), .val (.double (4463067230724161536 : UInt64)), .second, .val (.long (4 : Int64)), .second, .val (.long vb), .second, .val (.long va), .second, .val (.long vu), .second, .val (.long vt), .second, .val (.long vc), .second, .val (.ref b44), .val (.ref b57), .val (.int (0 : Int32)), .val (.int (0 : Int32))] [(.int (0 : Int32)), (.int (0 : Int32))]) G
          refine Gl.via (fun _ k => XS.icmpNo X83.here hx rfl (hb hby at_194) rfl (teq (by decide)).2 k) ?_
          show Gl p.tables e below T83 (mkF m 197 #[.val (.int p0), .val (.int p1), .val (.int p2), .val (.int p3), .val (.int p4), .val (.int p5), .val (.int (1 : Int32)), .val (.double (4463067230724161536 : UInt64)), .second, .val (.long (4 : Int64)), .second, .val (.long vb), .second, .val (.long va), .second, .val (.long vu), .second, .val (.long vt), .second, .val (.long vc), .second, .val (.ref b44), .val (.ref b57), .val (.int (0 : Int32)), .val (.int (0 : Int32))] []) G
          refine Gl.via (fun _ k => XS.iconst X83.here hx rfl (hb hby at_197) k) ?_
          show Gl p.tables e below T83 (mkF m 198 #[.val (.int p0), .val (.int p1), .val (.int p2), .val (.int p3), .val (.int p4), .val (.int p5), .val (.int (1 : Int32)), .val (.double (4463067230724161536 : UInt64)), .second, .val (.long (4 : Int64)), .second, .val (.long vb), .second, .val (.long va), .second, .val (.long vu), .second, .val (.long vt), .second, .val (.long vc), .second, .val (.ref b44), .val (.ref b57), .val (.int (0 : Int32)), .val (.int (0 : Int32))] [(.int (1 : Int32))]) G
          refine Gl.via (fun _ k => XS.goto X83.here hx rfl (pc0 := 198) (pc' := 202) rfl (hb hby at_198) (by decide) (by decide) k) ?_
          show Gl p.tables e below T83 (mkF m 202 #[.val (.int p0), .val (.int p1), .val (.int p2), .val (.int p3), .val (.int p4), .val (.int p5), .val (.int (1 : Int32)), .val (.double (4463067230724161536 : UInt64)), .second, .val (.long (4 : Int64)), .second, .val (.long vb), .second, .val (.long va), .second, .val (.long vu), .second, .val (.long vt), .second, .val (.long vc), .second, .val (.ref b44), .val (.ref b57), .val (.int (0 : Int32)), .val (.int (0 : Int32))] [(.int (1 : Int32))]) G
          obtain ⟨fs, hr, hrun, hended, hW, hsame⟩ := X83.leave (v := some (.int (1 : Int32))) (fun h => by rw [Bd.returns] at h; cases h)
          have hq : ∀ L, Fr n0 L → Q_rm0 Z p0 p1 p2 p3 p4 p5 h0 n0 (some (.int (1 : Int32))) T83.heap L := by
            intro L hN
            rw [eh83]
            exact ⟨rfl, hN⟩
          rw [hG]
          exact Gl.fin (retN X83 hx (t := .boolean) Bd.returns (by simp) (hb hby at_202) hr) ⟨_, hrun, hended, _, _, rfl, hq _ N83_, ⟨_, rfl⟩, hW, hsame.mono (by decide) (by decide)⟩
set_option maxRecDepth 65536 in
set_option maxHeartbeats 40000000 in
theorem comes_1 {Post : Tables → Env → Array Value → State → Outcome → State → Prop} (hpost : ∀ tb e args s v u, (limb_1_1.after args s (.returned v) u = true ∧ limb_1_2.after args s (.returned v) u = true ∧ True) → FrameEnd s (.returned v) u (Jvm.fieldLocs frame_1_writes args s ++ Jvm.arrayLocs frame_1_arrays args s ++ Jvm.staticLocs frame_1_statics s) 16 128 → Post tb e args s (.returned v) u) :
    ArmFor flags0 classFile x code maxLocals ret World_1 tables_1 room_1 Calls_1 rest_1 Pre_1 Post := by
  intro l hfl _ _ p e ha hc hk s m args below hf hA hF happ hP
  obtain ⟨hcalls, hrest, hpre⟩ := hP
  obtain ⟨-, -, -, hnamed, -, -, -, hat⟩ := (Spec.applies_iff hf).mp happ
  obtain ⟨hg, hn⟩ := and_e (Cond.before_iff.mp (show (Jvm.Cond.and given_1 narrow_1).before args s = true from hpre))
  obtain ⟨g1, g2⟩ := and_e hg
  obtain ⟨g3, g4⟩ := and_e g2
  obtain ⟨g5, g6⟩ := and_e g4
  obtain ⟨g7, g8⟩ := and_e g6
  obtain ⟨g9, g10⟩ := and_e g8
  obtain ⟨g11, g12⟩ := and_e g10
  obtain ⟨w0, w1, w2, w3, w4, w5, rfl⟩ : ∃ w0 w1 w2 w3 w4 w5 : Value, args = #[w0, w1, w2, w3, w4, w5] := by
    have hs : args.size = 6 := by simpa [Cond.value, given_1] using g1
    obtain ⟨L⟩ := args
    match L, hs with
    | [w0, w1, w2, w3, w4, w5], _ => exact ⟨w0, w1, w2, w3, w4, w5, rfl⟩
  have hw := fun d (hd : d ∈ tables_1) => atoms_spec (ws := Jvm.Cond.code x code maxLocals ret :: tables_1) hat d (List.mem_cons_of_mem _ hd)
  have hfit : Fit s := fun {y c} hc i hi => by
    obtain ⟨ha, rfl⟩ := Array.getElem?_eq_some_iff.mp hc
    have q := List.all_eq_true.mp ((Array.all_eq_true_iff_forall_mem.mp hF) _ (Array.getElem_mem ha)) i (List.mem_range.mpr hi)
    simpa [Array.getElem?_eq_getElem hi] using q
  obtain ⟨i0, ei0⟩ := is_v g3
  obtain rfl : w0 = (.int i0) := Option.some.inj ei0
  obtain ⟨i1, ei1⟩ := is_v g5
  obtain rfl : w1 = (.int i1) := Option.some.inj ei1
  obtain ⟨i2, ei2⟩ := is_v g7
  obtain rfl : w2 = (.int i2) := Option.some.inj ei2
  obtain ⟨i3, ei3⟩ := is_v g9
  obtain rfl : w3 = (.int i3) := Option.some.inj ei3
  obtain ⟨i4, ei4⟩ := is_v g11
  obtain rfl : w4 = (.int i4) := Option.some.inj ei4
  obtain ⟨i5, ei5⟩ := is_v g12
  obtain rfl : w5 = (.int i5) := Option.some.inj ei5
  obtain ⟨n, o, h1, h2, h3, _, L, rfl, ⟨rfl, N⟩, hq⟩ := rm0 l s _ hw tables_1 i0 i1 i2 i3 i4 i5 s.heap s.heap.size (Nat.le_refl _)  p e ha hc hk s m _ below hf ((Spec.applies_iff_loose hf).mp happ).1 ⟨rfl, State.Warmed39.refl s, rfl⟩ trivial
  refine ⟨n, _, h1, h2, h3, hpost _ _ _ _ _ _ ⟨Cond.after_iff.mpr rfl, Cond.after_iff.mpr (eq_i res_at (Term.int_eval (1)) rfl), trivial⟩ ⟨hq.1, hq.2.1, (hq.2.2.sift fun y hy => Or.inr (N y hy)).mono (by decide) (by decide)⟩⟩
theorem main_1_1 : Claimed_1_1 := comes_1 fun _ _ _ _ _ _ h hF => ⟨h.1, hF⟩
theorem main_1_2 : Claimed_1_2 := comes_1 fun _ _ _ _ _ _ h hF => ⟨h.2.1, hF⟩
end Jvm.Pilot.@@N@@
namespace Jvm.Pilot.@@N@@
open Jvm Jvm.ClassFile Sem Op Lib Jvm.Free Jvm.Stand Jvm.Pilot.@@N@@.Jvm.D
/-! MADE BY PROGRAM (witnessworld.py) out of the Statement's table words and the real class files: 10 classes; the members and pool entries that the words name. The judged class is class 1, her method 1. -/
namespace start1
open Jvm.ClassFile
def u (s : String) : CpInfo := .utf8 (stringToUtf16 s)
/-- a pool by its gaps: so many unusable entries, then the entry; so many at the end -/
def gap : Nat → List CpInfo → List CpInfo
  | 0, r => r
  | n + 1, r => .unusable :: gap n r
def poolList (es : List (Nat × CpInfo)) (last : Nat) : List CpInfo := es.foldr (fun e r => gap e.1 (e.2 :: r)) (gap last [])
def pool (es : List (Nat × CpInfo)) (last : Nat) : Array CpInfo := ⟨poolList es last⟩
def fileOf (pool : Array CpInfo) (this : Nat) (attrs : Array Attribute := #[]) (ms : Array MethodInfo := #[]) (fl : Nat := 33) (sup : Nat := 0) (ifs : Array Nat := #[]) (fds : Array FieldInfo := #[]) : ClassFile where
  minorVersion := 0
  majorVersion := 65
  constantPool := pool
  accessFlags := fl
  thisClass := this
  superClass := sup
  interfaces := ifs
  fields := fds
  methods := ms
  attributes := attrs
def plain (name : String) (sup : Option ClassId) : Class where
  name := name
  kind := .ordinary
  loader := none
  accessFlags := 33
  super := sup
  interfaces := #[]
  cf := none
  fields := #[]
  methods := #[]
  instanceTypes := #[]
  staticTypes := #[]
  resolved := #[]
  callSites := []
  init := .initialized
  statics := none
  mirror := none

def pool0 : Array CpInfo := pool [(5, u "<init>"), (0, u "()V"), (1, .class_ 10), (1, u "java/lang/Object")] 113

def k0c0 : Code := { maxStack := 0, maxLocals := 1, code := object_method_1_code, exceptionTable := #[], attributes := #[] }
def k0m0 : Method := { name := "<init>", desc := "()V", sig := { parameters := [], returnType := none }, accessFlags := 1, code := some k0c0 }
/-- java/lang/Object -/
def k0 : Class := { plain "java/lang/Object" none with
  accessFlags := 33
  interfaces := #[]
  cf := some (fileOf pool0 8 #[] #[{ accessFlags := 1, nameIndex := 5, descriptorIndex := 6, attributes := #[] }] 33 0 #[] #[])
  fields := #[]
  methods := #[k0m0]
  instanceTypes := #[]
  staticTypes := #[]
  resolved := Array.replicate 124 none
  statics := none }

def pool1 : Array CpInfo := pool [(2, .class_ 4), (1, u "java/lang/Object"), (0, u "<init>"), (0, u "()V"), (0, .double 4463067230724161536), (1, .long 4), (1, .class_ 12), (0, u "com/example/sortie/sortie/solver/Cost"), (0, .methodref 11 14), (0, .nameAndType 5 15), (0, u "(DD)V"), (0, .methodref 11 17), (0, .nameAndType 18 19), (0, u "below"), (0, u "(Lcom/example/sortie/sortie/solver/Cost;D)Z"), (0, .class_ 21), (0, u "com/example/sortie/sortie/solver/CostBelowPinLaw"), (2, u "law"), (0, u "(IIIIII)Z")] 3

def k1m0 : Method := { name := "<init>", desc := "()V", sig := { parameters := [], returnType := none }, accessFlags := 1, code := none }
def k1c1 : Code := { maxStack := 8, maxLocals := 25, code := code, exceptionTable := #[], attributes := #[] }
def k1m1 : Method := { name := "law", desc := "(IIIIII)Z", sig := { parameters := [.int, .int, .int, .int, .int, .int], returnType := some .boolean }, accessFlags := 9, code := some k1c1 }
/-- com/example/sortie/sortie/solver/CostBelowPinLaw -/
def k1 : Class := { plain "com/example/sortie/sortie/solver/CostBelowPinLaw" (some 0) with
  accessFlags := 49
  interfaces := #[]
  cf := some (fileOf pool1 20 #[] #[{ accessFlags := 1, nameIndex := 5, descriptorIndex := 6, attributes := #[] }, { accessFlags := 9, nameIndex := 24, descriptorIndex := 25, attributes := #[] }] 49 2 #[] #[])
  fields := #[]
  methods := #[k1m0, k1m1]
  instanceTypes := #[]
  staticTypes := #[]
  resolved := Array.replicate 29 none
  statics := none }

def pool2 : Array CpInfo := pool [(1, .methodref 2 3), (0, .class_ 4), (0, .nameAndType 5 6), (0, u "java/lang/Object"), (0, u "<init>"), (0, u "()V"), (0, .class_ 8), (0, u "java/lang/Record")] 13

def k2c0 : Code := { maxStack := 1, maxLocals := 1, code := jdk_30_method_1_code, exceptionTable := #[], attributes := #[] }
def k2m0 : Method := { name := "<init>", desc := "()V", sig := { parameters := [], returnType := none }, accessFlags := 4, code := some k2c0 }
/-- java/lang/Record -/
def k2 : Class := { plain "java/lang/Record" (some 0) with
  accessFlags := 1057
  interfaces := #[]
  cf := some (fileOf pool2 7 #[] #[{ accessFlags := 4, nameIndex := 5, descriptorIndex := 6, attributes := #[] }] 1057 2 #[] #[])
  fields := #[]
  methods := #[k2m0]
  instanceTypes := #[]
  staticTypes := #[]
  resolved := Array.replicate 22 none
  statics := none }

def pool3 : Array CpInfo := pool [(1, .methodref 2 3), (0, .class_ 4), (0, .nameAndType 5 6), (0, u "java/lang/Record"), (0, u "<init>"), (0, u "()V"), (0, .fieldref 8 9), (0, .class_ 10), (0, .nameAndType 11 12), (0, u "com/example/sortie/sortie/solver/Cost"), (0, u "value"), (0, u "D"), (0, .fieldref 8 14), (0, .nameAndType 15 12), (0, u "tieBreak"), (2, u "(DD)V"), (0, .double 4472406533629990549), (15, u "ZERO"), (0, u "Lcom/example/sortie/sortie/solver/Cost;"), (6, u "INFINITE"), (0, u "TIE"), (7, u "below"), (0, u "(Lcom/example/sortie/sortie/solver/Cost;D)Z")] 27

def k3c0 : Code := { maxStack := 3, maxLocals := 5, code := prog_45_method_1_code, exceptionTable := #[], attributes := #[] }
def k3m0 : Method := { name := "<init>", desc := "(DD)V", sig := { parameters := [.double, .double], returnType := none }, accessFlags := 0, code := some k3c0 }
def k3c1 : Code := { maxStack := 6, maxLocals := 4, code := prog_45_method_4_code, exceptionTable := #[], attributes := #[] }
def k3m1 : Method := { name := "below", desc := "(Lcom/example/sortie/sortie/solver/Cost;D)Z", sig := { parameters := [(.object "com/example/sortie/sortie/solver/Cost"), .double], returnType := some .boolean }, accessFlags := 0, code := some k3c1 }
/-- com/example/sortie/sortie/solver/Cost -/
def k3 : Class := { plain "com/example/sortie/sortie/solver/Cost" (some 2) with
  accessFlags := 48
  interfaces := #[]
  cf := some (fileOf pool3 8 #[] #[{ accessFlags := 0, nameIndex := 5, descriptorIndex := 18, attributes := #[] }, { accessFlags := 0, nameIndex := 52, descriptorIndex := 53, attributes := #[] }] 48 2 #[] #[{ accessFlags := 18, nameIndex := 11, descriptorIndex := 12, attributes := #[] }, { accessFlags := 18, nameIndex := 15, descriptorIndex := 12, attributes := #[] }, { accessFlags := 24, nameIndex := 35, descriptorIndex := 36, attributes := #[] }, { accessFlags := 24, nameIndex := 43, descriptorIndex := 36, attributes := #[] }, { accessFlags := 26, nameIndex := 44, descriptorIndex := 12, attributes := #[] }])
  fields := #[{ name := "value", type := .double, accessFlags := 18, slot := 0, constantValue := 0 }, { name := "tieBreak", type := .double, accessFlags := 18, slot := 1, constantValue := 0 }, { name := "ZERO", type := (.object "com/example/sortie/sortie/solver/Cost"), accessFlags := 24, slot := 0, constantValue := 0 }, { name := "INFINITE", type := (.object "com/example/sortie/sortie/solver/Cost"), accessFlags := 24, slot := 1, constantValue := 0 }, { name := "TIE", type := .double, accessFlags := 26, slot := 2, constantValue := 0 }]
  methods := #[k3m0, k3m1]
  instanceTypes := #[.double, .double]
  staticTypes := #[(.object "com/example/sortie/sortie/solver/Cost"), (.object "com/example/sortie/sortie/solver/Cost"), .double]
  resolved := Array.replicate 81 none
  statics := none }

def pool4 : Array CpInfo := pool [(1, u "java/lang/Cloneable"), (0, .class_ 1), (0, u "java/lang/Object"), (0, .class_ 3)] 3

/-- java/lang/Cloneable -/
def k4 : Class := { plain "java/lang/Cloneable" (some 0) with
  accessFlags := 1537
  interfaces := #[]
  cf := some (fileOf pool4 2 #[] #[] 1537 4 #[] #[])
  fields := #[]
  methods := #[]
  instanceTypes := #[]
  staticTypes := #[]
  resolved := Array.replicate 8 none
  statics := none }

def pool5 : Array CpInfo := pool [(1, u "java/io/Serializable"), (0, .class_ 1), (0, u "java/lang/Object"), (0, .class_ 3)] 3

/-- java/io/Serializable -/
def k5 : Class := { plain "java/io/Serializable" (some 0) with
  accessFlags := 1537
  interfaces := #[]
  cf := some (fileOf pool5 2 #[] #[] 1537 4 #[] #[])
  fields := #[]
  methods := #[]
  instanceTypes := #[]
  staticTypes := #[]
  resolved := Array.replicate 8 none
  statics := none }

/-- the primitive byte -/
def k6 : Class := { plain "byte" none with kind := .primitive 'B', accessFlags := 0x411 }
/-- [B -/
def k7 : Class := { plain "[B" (some 0) with kind := .array 6 .byte, interfaces := #[4, 5], accessFlags := 1041 }

/-- the primitive int -/
def k8 : Class := { plain "int" none with kind := .primitive 'I', accessFlags := 0x411 }
/-- [I -/
def k9 : Class := { plain "[I" (some 0) with kind := .array 8 .int, interfaces := #[4, 5], accessFlags := 1041 }

def heap : Heap := #[]
def classes : Array Class := #[k0, k1, k2, k3, k4, k5, k6, k7, k8, k9]
def interned : List (Array UInt16 × Addr) := []
def slotsUsed : Nat := 0
def theMethod : MethodId := ⟨1, 1⟩
def args0 : Array Value := #[.int 5, .int 7, .int 2, .int 9, .int 6, .int 1]
def aboutOver (below : List Frame) : State where
  vm := { classes := classes, interned := interned.toArray }
  heap := heap
  slotsUsed := slotsUsed
  threads := #[{ frames := .invoking theMethod args0 :: below }]
def below0 : List Frame := [.native { method := ⟨0, 0⟩, args := #[] }]
def about1 : State := aboutOver below0
def p0 : Program := .bare "" "" ""
def e0 : Env := launch0.env 0 0 0
theorem w_frames : about1.frames = Frame.invoking theMethod args0 :: below0 := rfl
set_option maxRecDepth 65536 in
theorem w_args : argsFit about1.vm theMethod args0 = true := by decide +kernel
set_option maxRecDepth 65536 in
theorem w_heap : heapFits about1 = true := by decide +kernel
set_option maxRecDepth 65536 in
theorem w_runnable : about1.curStatus? = some .runnable := by decide +kernel
set_option maxRecDepth 65536 in
theorem w_alone : about1.alone = true := by decide +kernel
set_option maxRecDepth 65536 in
theorem w_named : about1.methodNamed? x = some theMethod := by decide +kernel
set_option maxRecDepth 65536 in
theorem w_hears : about1.hears theMethod below0 = true := by decide +kernel
set_option maxRecDepth 65536 in
theorem w_ripe : about1.ripe theMethod args0 below0 = true := by decide +kernel
theorem w_running : about1.status = .running := rfl
set_option maxRecDepth 65536 in
theorem w_room : about1.hasRoom e0.platform room_1 = true :=
  launch0.hasRoom_least _ room_1 (by decide +kernel) (by decide +kernel) (by decide +kernel) (by decide +kernel) (by decide +kernel) (by decide +kernel)
theorem allAtoms_all (ts : List Jvm.Cond) (a : Array Jvm.Value) (st : Jvm.State) : (allAtoms ts).before a st = ts.all (fun c => c.before a st) := by
  induction ts with
  | nil => rfl
  | cons c t ih =>
    show (Jvm.Cond.and c (allAtoms t)).before a st = _
    rw [Jvm.Cond.before_and, ih, List.all_cons]
def words1 : List Jvm.Cond := Jvm.Cond.code x code maxLocals ret :: tables_1
/-- a 'code' word, met by the world's own term for the bytes: nothing is compared byte by byte -/
theorem code_word {y : MethodName} {bytes : ByteArray} {mx : Nat} {rt : Option FieldType} {a : Array Value} {s : State} {m : MethodId} {meth : Method} {c : Code} (h1 : s.methodNamed? y = some m) (h2 : s.vm.method? m = some meth) (h3 : meth.code = some c) (h4 : c.code = bytes)
    (h5 : (c.maxLocals == mx && c.exceptionTable.isEmpty && decide (c.maxStack ≤ mostOperands) && decide (meth.sig.returnType = rt) && !meth.locks && decide (parseMethodDescriptor y.desc = some meth.sig)) = true) : (Jvm.Cond.code y bytes mx rt).before a s = true := by
  simp only [Bool.and_eq_true, beq_iff_eq, Bool.not_eq_true', decide_eq_true_eq] at h5
  obtain ⟨⟨⟨⟨⟨g1, g2⟩, g3⟩, g4⟩, g5⟩, g6⟩ := h5
  simp [Cond.before, Cond.holds, Cond.value, h1, h2, h3, h4, g1, g2, g3, g4, g5, g6]
def isCode : Jvm.Cond → Bool
  | .code _ _ _ _ => true
  | _ => false
theorem all_split {L : List Jvm.Cond} {P : Jvm.Cond → Bool} (h1 : L.all (fun c => isCode c || P c) = true) (h2 : ∀ c ∈ L.filter isCode, P c = true) : L.all P = true := by
  refine List.all_eq_true.mpr fun c hc => ?_
  have h := List.all_eq_true.mp h1 c hc
  rcases Bool.eq_false_or_eq_true (isCode c) with hi | hi
  · exact h2 c (List.mem_filter.mpr ⟨hc, hi⟩)
  · simpa [hi] using h
set_option maxRecDepth 65536 in
theorem w_c0 : (Jvm.Cond.code x code maxLocals ret).before args0 about1 = true := code_word (m := ⟨1, 1⟩) (meth := k1m1) (c := k1c1) (by decide +kernel) rfl rfl rfl (by decide +kernel)
set_option maxRecDepth 65536 in
theorem w_c1 : (Jvm.Cond.code ({ cls := "com/example/sortie/sortie/solver/Cost", name := "<init>", desc := "(DD)V" } : Jvm.MethodName) prog_45_method_1_code (5 : Nat) (Option.none : Option Jvm.ClassFile.FieldType)).before args0 about1 = true := code_word (m := ⟨3, 0⟩) (meth := k3m0) (c := k3c0) (by decide +kernel) rfl rfl rfl (by decide +kernel)
set_option maxRecDepth 65536 in
theorem w_c2 : (Jvm.Cond.code ({ cls := "java/lang/Record", name := "<init>", desc := "()V" } : Jvm.MethodName) jdk_30_method_1_code (1 : Nat) (Option.none : Option Jvm.ClassFile.FieldType)).before args0 about1 = true := code_word (m := ⟨2, 0⟩) (meth := k2m0) (c := k2c0) (by decide +kernel) rfl rfl rfl (by decide +kernel)
set_option maxRecDepth 65536 in
theorem w_c3 : (Jvm.Cond.code ({ cls := "java/lang/Object", name := "<init>", desc := "()V" } : Jvm.MethodName) object_method_1_code (1 : Nat) (Option.none : Option Jvm.ClassFile.FieldType)).before args0 about1 = true := code_word (m := ⟨0, 0⟩) (meth := k0m0) (c := k0c0) (by decide +kernel) rfl rfl rfl (by decide +kernel)
set_option maxRecDepth 65536 in
theorem w_c4 : (Jvm.Cond.code ({ cls := "com/example/sortie/sortie/solver/Cost", name := "below", desc := "(Lcom/example/sortie/sortie/solver/Cost;D)Z" } : Jvm.MethodName) prog_45_method_4_code (4 : Nat) (Option.some Jvm.ClassFile.FieldType.boolean)).before args0 about1 = true := code_word (m := ⟨3, 1⟩) (meth := k3m1) (c := k3c1) (by decide +kernel) rfl rfl rfl (by decide +kernel)
def codes1 : List Jvm.Cond := [Jvm.Cond.code x code maxLocals ret, Jvm.Cond.code ({ cls := "com/example/sortie/sortie/solver/Cost", name := "<init>", desc := "(DD)V" } : Jvm.MethodName) prog_45_method_1_code (5 : Nat) (Option.none : Option Jvm.ClassFile.FieldType), Jvm.Cond.code ({ cls := "java/lang/Record", name := "<init>", desc := "()V" } : Jvm.MethodName) jdk_30_method_1_code (1 : Nat) (Option.none : Option Jvm.ClassFile.FieldType), Jvm.Cond.code ({ cls := "java/lang/Object", name := "<init>", desc := "()V" } : Jvm.MethodName) object_method_1_code (1 : Nat) (Option.none : Option Jvm.ClassFile.FieldType), Jvm.Cond.code ({ cls := "com/example/sortie/sortie/solver/Cost", name := "below", desc := "(Lcom/example/sortie/sortie/solver/Cost;D)Z" } : Jvm.MethodName) prog_45_method_4_code (4 : Nat) (Option.some Jvm.ClassFile.FieldType.boolean)]
set_option maxRecDepth 65536 in
theorem codes_eq : words1.filter isCode = codes1 := rfl
theorem w_codes : ∀ c ∈ words1.filter isCode, c.before args0 about1 = true := by
  rw [codes_eq]
  intro c hc
  simp only [codes1, List.mem_cons, List.not_mem_nil, or_false] at hc
  rcases hc with rfl | rfl | rfl | rfl | rfl
  · exact w_c0
  · exact w_c1
  · exact w_c2
  · exact w_c3
  · exact w_c4
set_option maxRecDepth 65536 in
theorem w_t1 : (words1.take 24).all (fun c => isCode c || c.before args0 about1) = true := by decide +kernel
set_option maxRecDepth 65536 in
theorem w_t2 : (words1.drop 24).all (fun c => isCode c || c.before args0 about1) = true := by decide +kernel
theorem w_tables : (allAtoms (Jvm.Cond.code x code maxLocals ret :: tables_1)).before args0 about1 = true := by
  rw [allAtoms_all]
  show words1.all (fun c => c.before args0 about1) = true
  refine all_split ?_ w_codes
  rw [← List.take_append_drop 24 words1, List.all_append, w_t1, w_t2]
  rfl
set_option maxRecDepth 65536 in
theorem w_case : (Jvm.Cond.and given_1 narrow_1).before args0 about1 = true := by decide +kernel
theorem w_applies : (headSpec (Jvm.Cond.code x code maxLocals ret :: tables_1) room_1).applies x e0.platform about1 = true :=
  (Spec.applies_iff w_frames).mpr ⟨w_running, w_runnable, w_alone, w_named, w_hears, w_ripe, w_room, w_tables⟩
theorem atStart : AtStart classFile x code maxLocals ret World_1 tables_1 room_1 Calls_1 rest_1 Pre_1 launch0 p0 e0 about1 theMethod args0 below0 :=
  ⟨lists_1, trivial, launch0.admits_env _ _ _, launch0.least_env, fairChoices_fair.cas, fairChoices_fair.clock, w_frames, w_args, w_heap, w_applies, trivial, trivial, w_case⟩
end start1
theorem witness_1 : WitnessClaimed_1 := ⟨start1.p0, start1.e0, start1.about1, start1.theMethod, start1.args0, start1.below0, start1.atStart⟩
end Jvm.Pilot.@@N@@
