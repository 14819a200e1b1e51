import JvmDerived
import JvmDerived.Pilot.@@N@@Statement
import JvmDerived.Pilot.@@N@@Code
set_option linter.unusedVariables false
set_option linter.unusedSimpArgs false
namespace Jvm.Pilot.@@N@@
open Jvm Jvm.ClassFile Sem Op Lib Jvm.Free Jvm.Stand Jvm.LawKit Jvm.RoadKit Bundle Jvm.Pilot.@@N@@.Jvm.D

section OwnF
open Jvm.FP.Core
theorem own_pow {c d A B : Nat} {q r : Int} (ea : c * 2 ^ q.toNat = A * 2 ^ (-q).toNat) (eb : d * 2 ^ r.toNat = B * 2 ^ (-r).toNat) : c * B * 2 ^ ((q - r) - 0).toNat = A * d * 2 ^ (0 - (q - r)).toNat := by
  have hx : (q - r - 0).toNat + (-q).toNat + r.toNat = (0 - (q - r)).toNat + q.toNat + (-r).toNat := by omega
  generalize (q - r - 0).toNat = u at *
  generalize (0 - (q - r)).toNat = v at *
  generalize q.toNat = q1 at *
  generalize (-q).toNat = q2 at *
  generalize r.toNat = r1 at *
  generalize (-r).toNat = r2 at *
  have hp : 0 < 2 ^ q1 * 2 ^ r2 := Nat.mul_pos (Nat.two_pow_pos _) (Nat.two_pow_pos _)
  apply Nat.eq_of_mul_eq_mul_right hp
  have e1 : c * B * 2 ^ u * (2 ^ q1 * 2 ^ r2) = (c * 2 ^ q1) * (B * 2 ^ r2) * 2 ^ u := by
    simp only [Nat.mul_assoc, Nat.mul_comm, Nat.mul_left_comm]
  have e2 : A * d * 2 ^ v * (2 ^ q1 * 2 ^ r2) = A * d * 2 ^ (v + q1 + r2) := by
    rw [Nat.pow_add, Nat.pow_add]; simp only [Nat.mul_assoc]
  have e3 : A * 2 ^ q2 * (d * 2 ^ r1) * 2 ^ u = A * d * 2 ^ (u + q2 + r1) := by
    rw [Nat.pow_add, Nat.pow_add]; simp only [Nat.mul_assoc, Nat.mul_comm, Nat.mul_left_comm]
  rw [e1, e2, ea, ← eb, e3, hx]
theorem own_div {a b : Int64} (ha : Small53 a) (hb : Small53 b) (h0 : 0 < b.toInt) : val64 (FP.ddiv (FP.l2d a) (FP.l2d b)) = roundRatio b64 (decide (a.toInt < 0)) a.toInt.natAbs b.toInt.natAbs 0 := by
  obtain ⟨c, q, hc⟩ := l2d_shape a
  obtain ⟨d, r, hd⟩ := l2d_shape b
  have wa := l2d_whole ha
  have wb := l2d_whole hb
  rw [hc] at wa
  rw [hd] at wb
  have d0 : ¬ d = 0 := fun z => by have := (whole_zero wb).mp z; omega
  have e := val64_ddiv (FP.l2d a) (FP.l2d b)
  rw [show val64 (FP.l2d a) = _ from hc, show val64 (FP.l2d b) = _ from hd] at e
  refine e.trans ?_
  show (if d = 0 then (if c = 0 then Datum.nan else .inf _) else roundRatio b64 _ c d (q - r)) = _
  rw [if_neg d0]
  have hs : (decide (a.toInt < 0) != decide (b.toInt < 0)) = decide (a.toInt < 0) := by
    rw [show decide (b.toInt < 0) = false from decide_eq_false (by omega)]; simp
  rw [hs]
  exact roundRatio_congr (Nat.pos_of_ne_zero d0) (by omega) (own_pow (whole_natAbs wa) (whole_natAbs wb))
theorem own_i2d (x : Int32) : val64 (FP.i2d x) = roundRatio b64 (decide (x.toInt < 0)) x.toInt.natAbs 1 0 := val64_i2d x
theorem own_i2d_whole (x : Int32) : Whole x.toInt (val64 (FP.i2d x)) := by
  rw [show FP.i2d x = FP.l2d x.toInt64 from i2d_l2d x]
  have h := l2d_whole (a := x.toInt64) ⟨by rw [Int32.toInt_toInt64]; have := x.le_toInt; omega, by rw [Int32.toInt_toInt64]; have := x.toInt_lt; omega⟩
  rw [Int32.toInt_toInt64] at h; exact h
theorem own_v05 : val64 4602678819172646912 = .fin false (2 ^ 52) (-53) := by decide +kernel
theorem own_half (x : Int32) : val64 (FP.dadd (FP.i2d x) 4602678819172646912) = roundRatio b64 (decide (2 * x.toInt + 1 < 0)) (2 * x.toInt + 1).natAbs 1 (-1) := by
  have w := own_i2d_whole x
  have e := val64_dadd (FP.i2d x) 4602678819172646912
  refine e.trans ?_
  rw [own_v05]
  generalize val64 (FP.i2d x) = y at w
  cases y with
  | nan => exact w.elim
  | inf => exact w.elim
  | fin s c q =>
    have hm1 : min q (-53) ≤ q := Int.min_le_left _ _
    have hm2 : min q (-53) ≤ -53 := Int.min_le_right _ _
    show round b64 (.fin (sumSign s false (sumUnits s c q false (2 ^ 52) (-53) (min q (-53)))) (sumUnits s c q false (2 ^ 52) (-53) (min q (-53))).natAbs (min q (-53))) = _
    have u := whole_units w hm1
    generalize min q (-53) = m at *
    have hv : sumUnits s c q false (2 ^ 52) (-53) m = (2 * x.toInt + 1) * ((2 ^ (-1 - m).toNat : Nat) : Int) := by
      have z : m.toNat = 0 := by omega
      rw [z] at u
      have hD : (-m).toNat = (-1 - m).toNat + 1 := by omega
      rw [hD] at u
      have e2 : inUnits (2 ^ 52) (-53) m = 2 ^ (-1 - m).toNat := by
        show 2 ^ 52 * 2 ^ (-53 - m).toNat = _
        rw [← Nat.pow_add]; congr 1; omega
      show signed s (inUnits c q m) + signed false (inUnits (2 ^ 52) (-53) m) = _
      rw [e2]
      show _ + ((2 ^ (-1 - m).toNat : Nat) : Int) = _
      rw [Nat.pow_succ] at u
      generalize 2 ^ (-1 - m).toNat = D at *
      have u' : signed s (inUnits c q m) = x.toInt * ((D : Int) * 2) := by
        have := u; rw [Int.natCast_mul] at this; simpa using this
      rw [Int.add_mul, Int.one_mul, Int.mul_assoc, u']
      have : x.toInt * ((D : Int) * 2) = 2 * (x.toInt * (D : Int)) := by
        rw [← Int.mul_assoc, Int.mul_comm]
      omega
    have hpos : (0 : Int) < ((2 ^ (-1 - m).toNat : Nat) : Int) := by have := Nat.two_pow_pos (-1 - m).toNat; omega
    rw [hv]
    have hne : ¬ ((2 * x.toInt + 1) * ((2 ^ (-1 - m).toNat : Nat) : Int) = 0) := by
      intro h
      rcases Int.mul_eq_zero.mp h with h | h <;> omega
    have hsg : sumSign s false ((2 * x.toInt + 1) * ((2 ^ (-1 - m).toNat : Nat) : Int)) = decide (2 * x.toInt + 1 < 0) := by
      unfold sumSign
      rw [if_neg hne]
      apply decide_eq_decide.mpr
      constructor
      · intro h
        apply Int.lt_of_not_ge
        intro h2
        have := Int.mul_nonneg h2 (Int.le_of_lt hpos)
        omega
      · intro h
        exact Int.mul_neg_of_neg_of_pos h hpos
    rw [hsg]
    show roundRatio b64 _ _ 1 m = _
    refine roundRatio_congr (by decide) (by decide) ?_
    rw [Int.natAbs_mul, Int.natAbs_natCast, show (m - -1).toNat = 0 by omega]
    simp
theorem own_nn {x : UInt64} {s : Bool} {A B : Nat} {e : Int} (h : val64 x = roundRatio b64 s A B e) : Jvm.Free.Fl.NoNaN64 x := Jvm.Free.Fl.noNaN64_no.mpr ((notNaN_iff x).mpr (by rw [h]; exact roundRatio_ne_nan _ _ _ _ _))
theorem own_eq0 {x y : UInt64} {s : Bool} {A B : Nat} {e : Int} (hx : val64 x = roundRatio b64 s A B e) (hy : val64 y = roundRatio b64 s A B e) (o : ClassFile.CmpOp) : cmpValue (FP.dcmp x y) o = 0 :=
  dcmpV_eq (val64_inj (by rw [hx]; exact roundRatio_ne_nan _ _ _ _ _) (hx.trans hy.symm)) (own_nn hx) o
end OwnF
section OwnH
open Jvm.FP.Core
theorem own_zmag {V : Datum} {M : Int} {K : Nat} (h : zval b64 V = M * (K : Int)) : zmag b64 V = M.natAbs * K := by
  have := congrArg Int.natAbs h
  rw [show zval b64 V = signed (sgn V) (zmag b64 V) from rfl, natAbs_signed, Int.natAbs_mul, Int.natAbs_natCast] at this
  exact this
theorem own_rlo {V : Datum} {a M : Int} {b : Nat} (hb : 0 < b) (fV : FP.Core.fits b64 V) (nV : V ≠ .nan) (hz : zval b64 V = M * ((2 ^ (-b64.qmin).toNat : Nat) : Int)) (h : M * (b : Int) ≤ a) : zval b64 V ≤ zval b64 (roundRatio b64 (decide (a < 0)) a.natAbs b 0) := by
  have hzm := own_zmag hz
  have hs := sgn_roundRatio b64 (decide (a < 0)) a.natAbs b 0
  have hR : zval b64 (roundRatio b64 (decide (a < 0)) a.natAbs b 0) = signed (decide (a < 0)) (zmag b64 (roundRatio b64 (decide (a < 0)) a.natAbs b 0)) := by
    show signed (sgn _) _ = _
    rw [hs]
  have hq : b64.qmin = -1074 := by decide
  have hin : inUnits a.natAbs 0 b64.qmin = a.natAbs * 2 ^ (-b64.qmin).toNat := by
    show _ * 2 ^ (0 - b64.qmin).toNat = _
    rw [Int.zero_sub]
  have h1 : (b64.qmin - b64.qmin).toNat = 0 := by rw [Int.sub_self]; rfl
  have hK := Nat.two_pow_pos (-b64.qmin).toNat
  have le := fun g => zmag_roundRatio_le good_b64 (s := decide (a < 0)) (A := a.natAbs) (B := b) (e := 0) (e0 := b64.qmin) (V := V) hb fV nV (Int.le_refl _) (by rw [hq]; decide) g
  have ge := fun g => zmag_roundRatio_ge good_b64 (s := decide (a < 0)) (A := a.natAbs) (B := b) (e := 0) (e0 := b64.qmin) (V := V) hb fV (Int.le_refl _) (by rw [hq]; decide) g
  rw [hin, hzm, h1, Nat.pow_zero, Nat.mul_one] at le ge
  rw [hR, hz]
  generalize 2 ^ (-b64.qmin).toNat = K at *
  generalize zmag b64 (roundRatio b64 (decide (a < 0)) a.natAbs b 0) = r at *
  by_cases ha : a < 0
  · have hM : M < 0 := by
      apply Int.lt_of_not_ge
      intro z
      have := Int.mul_nonneg z (show (0 : Int) ≤ (b : Int) by omega)
      omega
    rw [show decide (a < 0) = true from decide_eq_true ha]
    show M * (K : Int) ≤ -(r : Int)
    have g := le (by
      have e1 : M.natAbs * K * b = (M.natAbs * b) * K := by rw [Nat.mul_assoc, Nat.mul_comm K b, ← Nat.mul_assoc]
      rw [e1]
      apply Nat.mul_le_mul_right
      have e2 : ((M.natAbs * b : Nat) : Int) = -(M * (b : Int)) := by
        rw [Int.natCast_mul, show ((M.natAbs : Nat) : Int) = -M by omega, Int.neg_mul]
      omega)
    have e3 : ((M.natAbs * K : Nat) : Int) = -(M * (K : Int)) := by
      rw [Int.natCast_mul, show ((M.natAbs : Nat) : Int) = -M by omega, Int.neg_mul]
    omega
  · rw [show decide (a < 0) = false from decide_eq_false ha]
    show M * (K : Int) ≤ (r : Int)
    by_cases hM : M ≤ 0
    · have := Int.mul_nonneg (show (0 : Int) ≤ -M by omega) (show (0 : Int) ≤ (K : Int) by omega)
      rw [Int.neg_mul] at this
      omega
    · have g := ge (by
        have e1 : M.natAbs * K * b = (M.natAbs * b) * K := by rw [Nat.mul_assoc, Nat.mul_comm K b, ← Nat.mul_assoc]
        rw [e1]
        apply Nat.mul_le_mul_right
        have e2 : ((M.natAbs * b : Nat) : Int) = M * (b : Int) := by
          rw [Int.natCast_mul, show ((M.natAbs : Nat) : Int) = M by omega]
        omega)
      have e3 : ((M.natAbs * K : Nat) : Int) = M * (K : Int) := by
        rw [Int.natCast_mul, show ((M.natAbs : Nat) : Int) = M by omega]
      omega
theorem own_rhi {V : Datum} {a M : Int} {b : Nat} (hb : 0 < b) (fV : FP.Core.fits b64 V) (nV : V ≠ .nan) (hz : zval b64 V = M * ((2 ^ (-b64.qmin).toNat : Nat) : Int)) (h : a ≤ M * (b : Int)) : zval b64 (roundRatio b64 (decide (a < 0)) a.natAbs b 0) ≤ zval b64 V := by
  have hzm := own_zmag hz
  have hs := sgn_roundRatio b64 (decide (a < 0)) a.natAbs b 0
  have hR : zval b64 (roundRatio b64 (decide (a < 0)) a.natAbs b 0) = signed (decide (a < 0)) (zmag b64 (roundRatio b64 (decide (a < 0)) a.natAbs b 0)) := by
    show signed (sgn _) _ = _
    rw [hs]
  have hq : b64.qmin = -1074 := by decide
  have hin : inUnits a.natAbs 0 b64.qmin = a.natAbs * 2 ^ (-b64.qmin).toNat := by
    show _ * 2 ^ (0 - b64.qmin).toNat = _
    rw [Int.zero_sub]
  have h1 : (b64.qmin - b64.qmin).toNat = 0 := by rw [Int.sub_self]; rfl
  have hK := Nat.two_pow_pos (-b64.qmin).toNat
  have le := fun g => zmag_roundRatio_le good_b64 (s := decide (a < 0)) (A := a.natAbs) (B := b) (e := 0) (e0 := b64.qmin) (V := V) hb fV nV (Int.le_refl _) (by rw [hq]; decide) g
  have ge := fun g => zmag_roundRatio_ge good_b64 (s := decide (a < 0)) (A := a.natAbs) (B := b) (e := 0) (e0 := b64.qmin) (V := V) hb fV (Int.le_refl _) (by rw [hq]; decide) g
  rw [hin, hzm, h1, Nat.pow_zero, Nat.mul_one] at le ge
  rw [hR, hz]
  generalize 2 ^ (-b64.qmin).toNat = K at *
  generalize zmag b64 (roundRatio b64 (decide (a < 0)) a.natAbs b 0) = r at *
  by_cases ha : a < 0
  · rw [show decide (a < 0) = true from decide_eq_true ha]
    show -(r : Int) ≤ M * (K : Int)
    by_cases hM : 0 ≤ M
    · have := Int.mul_nonneg hM (show (0 : Int) ≤ (K : Int) by omega)
      omega
    · have g := ge (by
        have e1 : M.natAbs * K * b = (M.natAbs * b) * K := by rw [Nat.mul_assoc, Nat.mul_comm K b, ← Nat.mul_assoc]
        rw [e1]
        apply Nat.mul_le_mul_right
        have e2 : ((M.natAbs * b : Nat) : Int) = -(M * (b : Int)) := by
          rw [Int.natCast_mul, show ((M.natAbs : Nat) : Int) = -M by omega, Int.neg_mul]
        omega)
      have e3 : ((M.natAbs * K : Nat) : Int) = -(M * (K : Int)) := by
        rw [Int.natCast_mul, show ((M.natAbs : Nat) : Int) = -M by omega, Int.neg_mul]
      omega
  · rw [show decide (a < 0) = false from decide_eq_false ha]
    show (r : Int) ≤ M * (K : Int)
    have hM : 0 ≤ M := by
      apply Int.le_of_not_gt
      intro z
      have := Int.mul_neg_of_neg_of_pos z (show (0 : Int) < (b : Int) by omega)
      omega
    have g := le (by
      have e1 : M.natAbs * K * b = (M.natAbs * b) * K := by rw [Nat.mul_assoc, Nat.mul_comm K b, ← Nat.mul_assoc]
      rw [e1]
      apply Nat.mul_le_mul_right
      have e2 : ((M.natAbs * b : Nat) : Int) = M * (b : Int) := by
        rw [Int.natCast_mul, show ((M.natAbs : Nat) : Int) = M by omega]
      omega)
    have e3 : ((M.natAbs * K : Nat) : Int) = M * (K : Int) := by
      rw [Int.natCast_mul, show ((M.natAbs : Nat) : Int) = M by omega]
    omega
theorem own_notgt {x y : UInt64} (h : FP.Core.dcmp x y = some .lt ∨ FP.Core.dcmp x y = some .eq) : ¬ ((0 : Int32) < cmpValue (FP.dcmp x y) .g) := by
  rcases h with h | h <;> rw [show FP.dcmp x y = _ from h] <;> decide
theorem own_cmplo {a b L : Int64} (ha : Small53 a) (hb : Small53 b) (h0 : 0 < b.toInt) (hL : Small53 L) (h : L.toInt * b.toInt ≤ a.toInt) : ¬ ((0 : Int32) < cmpValue (FP.dcmp (FP.l2d L) (FP.ddiv (FP.l2d a) (FP.l2d b))) .g) := by
  apply own_notgt
  have w := l2d_whole hL
  refine dcmp_le.mpr ⟨w.ne_nan, ?_, ?_⟩
  · rw [show val64 (FP.Core.ddiv (FP.l2d a) (FP.l2d b)) = _ from own_div ha hb h0]; exact roundRatio_ne_nan _ _ _ _ _
  · rw [show val64 (FP.Core.ddiv (FP.l2d a) (FP.l2d b)) = _ from own_div ha hb h0]
    exact own_rlo (by omega) (val64_fits _) w.ne_nan (whole_zval good_b64 (val64_fits _) w) (by rw [show ((b.toInt.natAbs : Nat) : Int) = b.toInt by omega]; exact h)
theorem own_cmphi {a b L : Int64} (ha : Small53 a) (hb : Small53 b) (h0 : 0 < b.toInt) (hL : Small53 L) (h : a.toInt ≤ L.toInt * b.toInt) : ¬ ((0 : Int32) < cmpValue (FP.dcmp (FP.ddiv (FP.l2d a) (FP.l2d b)) (FP.l2d L)) .g) := by
  apply own_notgt
  have w := l2d_whole hL
  refine dcmp_le.mpr ⟨?_, w.ne_nan, ?_⟩
  · rw [show val64 (FP.Core.ddiv (FP.l2d a) (FP.l2d b)) = _ from own_div ha hb h0]; exact roundRatio_ne_nan _ _ _ _ _
  · rw [show val64 (FP.Core.ddiv (FP.l2d a) (FP.l2d b)) = _ from own_div ha hb h0]
    exact own_rhi (by omega) (val64_fits _) w.ne_nan (whole_zval good_b64 (val64_fits _) w) (by rw [show ((b.toInt.natAbs : Nat) : Int) = b.toInt by omega]; exact h)
end OwnH
section OwnM
open Jvm.FP.Core
theorem own_l2d0 : FP.l2d 0 = (0 : UInt64) := by decide +kernel
theorem own_l2d1 : FP.l2d 1 = (4607182418800017408 : UInt64) := by decide +kernel
theorem own_i2dl (n : Int32) : FP.i2d n = FP.l2d n.toInt64 := i2d_l2d n
theorem own_s53 (n : Int32) : Small53 n.toInt64 := ⟨by rw [c_i2l]; have := rng32 n; omega, by rw [c_i2l]; have := rng32 n; omega⟩
theorem own_notgtL {x y : UInt64} (h : FP.Core.dcmp x y = some .lt ∨ FP.Core.dcmp x y = some .eq) : ¬ ((0 : Int32) < cmpValue (FP.dcmp x y) .l) := by
  rcases h with h | h <;> rw [show FP.dcmp x y = _ from h] <;> decide
theorem own_notltL {x y : UInt64} (h : FP.Core.dcmp x y = some .gt ∨ FP.Core.dcmp x y = some .eq) : ¬ (cmpValue (FP.dcmp x y) .l < (0 : Int32)) := by
  rcases h with h | h <;> rw [show FP.dcmp x y = _ from h] <;> decide
theorem own_isgt {x y : UInt64} {o : CmpOp} (h : FP.Core.dcmp x y = some .gt) : (0 : Int32) < cmpValue (FP.dcmp x y) o := by
  rw [show FP.dcmp x y = _ from h]; cases o <;> decide
theorem own_ge0 {a b : Int64} (ha : Small53 a) (hb : Small53 b) (h0 : 0 < b.toInt) (h : 0 ≤ a.toInt) : ¬ (cmpValue (FP.dcmp (FP.ddiv (FP.l2d a) (FP.l2d b)) (0 : UInt64)) .l < (0 : Int32)) := by
  apply own_notltL
  rw [← own_l2d0]
  have w := l2d_whole (a := 0) ⟨by decide, by decide⟩
  refine dcmp_ge.mpr ⟨?_, w.ne_nan, ?_⟩
  · rw [show val64 (FP.Core.ddiv (FP.l2d a) (FP.l2d b)) = _ from own_div ha hb h0]; exact roundRatio_ne_nan _ _ _ _ _
  · rw [show val64 (FP.Core.ddiv (FP.l2d a) (FP.l2d b)) = _ from own_div ha hb h0]
    exact own_rlo (by omega) (val64_fits _) w.ne_nan (whole_zval good_b64 (val64_fits _) w) (by show (0 : Int) * _ ≤ _; omega)
theorem own_le0 {a b : Int64} (ha : Small53 a) (hb : Small53 b) (h0 : 0 < b.toInt) (h : a.toInt ≤ 0) : ¬ ((0 : Int32) < cmpValue (FP.dcmp (FP.ddiv (FP.l2d a) (FP.l2d b)) (0 : UInt64)) .l) := by
  apply own_notgtL
  rw [← own_l2d0]
  have w := l2d_whole (a := 0) ⟨by decide, by decide⟩
  refine dcmp_le.mpr ⟨?_, w.ne_nan, ?_⟩
  · rw [show val64 (FP.Core.ddiv (FP.l2d a) (FP.l2d b)) = _ from own_div ha hb h0]; exact roundRatio_ne_nan _ _ _ _ _
  · rw [show val64 (FP.Core.ddiv (FP.l2d a) (FP.l2d b)) = _ from own_div ha hb h0]
    exact own_rhi (by omega) (val64_fits _) w.ne_nan (whole_zval good_b64 (val64_fits _) w) (by show _ ≤ (0 : Int) * _; omega)
theorem own_le1 {a b : Int64} (ha : Small53 a) (hb : Small53 b) (h0 : 0 < b.toInt) (h : a.toInt ≤ b.toInt) : ¬ ((0 : Int32) < cmpValue (FP.dcmp (FP.ddiv (FP.l2d a) (FP.l2d b)) (4607182418800017408 : UInt64)) .g) := by
  rw [← own_l2d1]
  exact own_cmphi ha hb h0 ⟨by decide, by decide⟩ (by show _ ≤ (1 : Int) * _; omega)
theorem own_zge {a b : Int64} {V : UInt64} {z : Nat} (ha : Small53 a) (hb : Small53 b) (h0 : 0 < b.toInt) (hp : 0 ≤ a.toInt) (hz : zmag b64 (val64 V) = z) (h : z * b.toInt.natAbs ≤ a.toInt.natAbs * 2 ^ 1074) : ((z : Nat) : Int) ≤ zval b64 (val64 (FP.ddiv (FP.l2d a) (FP.l2d b))) := by
  rw [own_div ha hb h0]
  have hs := sgn_roundRatio b64 (decide (a.toInt < 0)) a.toInt.natAbs b.toInt.natAbs 0
  show _ ≤ signed (sgn _) _
  rw [hs, show decide (a.toInt < 0) = false from decide_eq_false (by omega)]
  have hq : b64.qmin = -1074 := by decide
  have g := zmag_roundRatio_ge good_b64 (s := false) (A := a.toInt.natAbs) (B := b.toInt.natAbs) (e := 0) (e0 := b64.qmin) (V := val64 V) (by omega) (val64_fits _) (Int.le_refl _) (by rw [hq]; decide) (by
    rw [hz, Int.sub_self]
    show z * 1 * _ ≤ a.toInt.natAbs * 2 ^ (0 - b64.qmin).toNat
    rw [Nat.mul_one, hq]
    exact h)
  rw [hz] at g
  show ((z : Nat) : Int) ≤ ((zmag b64 _ : Nat) : Int)
  omega
theorem own_vs : zmag b64 (val64 4463067230724161536) = 2 ^ 1042 := by decide +kernel
theorem own_vb : zmag b64 (val64 4607182418802114560) = 2 ^ 1074 + 2 ^ 1043 := by decide +kernel
theorem own_v1 : zval b64 (val64 4607182418800017408) = ((2 ^ 1074 : Nat) : Int) := by decide +kernel
theorem own_v0 : zval b64 (val64 0) = 0 := by decide +kernel
theorem own_dnn {a b : Int64} (ha : Small53 a) (hb : Small53 b) (h0 : 0 < b.toInt) : val64 (FP.ddiv (FP.l2d a) (FP.l2d b)) ≠ .nan := by
  rw [own_div ha hb h0]; exact roundRatio_ne_nan _ _ _ _ _
theorem own_gt0 {a b : Int64} (ha : Small53 a) (hb : Small53 b) (h0 : 0 < b.toInt) (h1 : b.toInt ≤ 2147483648) (h : 0 < a.toInt) : (0 : Int32) < cmpValue (FP.dcmp (FP.ddiv (FP.l2d a) (FP.l2d b)) (0 : UInt64)) .l := by
  apply own_isgt
  have g := own_zge ha hb h0 (by omega) own_vs (by
    have e1 : (2 : Nat) ^ 1074 = 2 ^ 1042 * 2 ^ 32 := by rw [← Nat.pow_add]
    rw [e1, Nat.mul_comm a.toInt.natAbs, Nat.mul_assoc]
    apply Nat.mul_le_mul_left
    omega)
  have p : (0 : Int) < ((2 ^ 1042 : Nat) : Int) := by have := Nat.two_pow_pos 1042; omega
  refine dcmp_gt.mpr ⟨own_dnn ha hb h0, by decide +kernel, ?_⟩
  have q : zval b64 (val64 0) < zval b64 (val64 (FP.ddiv (FP.l2d a) (FP.l2d b))) := by rw [own_v0]; omega
  exact q
theorem own_gt1 {a b : Int64} (ha : Small53 a) (hb : Small53 b) (h0 : 0 < b.toInt) (h1 : b.toInt ≤ 2147483648) (h : b.toInt < a.toInt) : (0 : Int32) < cmpValue (FP.dcmp (FP.ddiv (FP.l2d a) (FP.l2d b)) (4607182418800017408 : UInt64)) .g := by
  apply own_isgt
  have g := own_zge ha hb h0 (by omega) own_vb (by
    have e1 : (2 : Nat) ^ 1074 = 2 ^ 1043 * 2147483648 := by rw [show (2147483648 : Nat) = 2 ^ 31 from rfl, ← Nat.pow_add]
    rw [e1]
    have e2 : a.toInt.natAbs * (2 ^ 1043 * 2147483648) = 2 ^ 1043 * (a.toInt.natAbs * 2147483648) := by rw [Nat.mul_left_comm]
    have e3 : (2 ^ 1043 * 2147483648 + 2 ^ 1043) * b.toInt.natAbs = 2 ^ 1043 * ((2147483648 + 1) * b.toInt.natAbs) := by
      rw [← Nat.mul_assoc, Nat.mul_add, Nat.mul_one]
    rw [e2, e3]
    apply Nat.mul_le_mul_left
    omega)
  refine dcmp_gt.mpr ⟨own_dnn ha hb h0, by decide +kernel, ?_⟩
  have p : (0 : Int) < ((2 ^ 1043 : Nat) : Int) := by have := Nat.two_pow_pos 1043; omega
  have q : zval b64 (val64 4607182418800017408) < zval b64 (val64 (FP.ddiv (FP.l2d a) (FP.l2d b))) := by
    rw [own_v1]
    rw [Int.natCast_add] at g
    omega
  exact q
end OwnM
section OwnE
open Jvm.FP.Core
/-- the double x is the number n / 2^m -/
def own_E (n : Int) (m : Nat) (x : UInt64) : Prop := ∃ s c q, val64 x = .fin s c q ∧ c * 2 ^ (q + m).toNat = n.natAbs * 2 ^ (-(q + m)).toNat ∧ (n ≠ 0 → s = decide (n < 0))
theorem own_E_nn {n : Int} {m : Nat} {x : UInt64} (h : own_E n m x) : Jvm.Free.Fl.NoNaN64 x := by
  obtain ⟨s, c, q, h1, -⟩ := h
  exact Jvm.Free.Fl.noNaN64_no.mpr ((notNaN_iff x).mpr (by rw [h1]; nofun))
theorem own_E_fin {n : Int} {m : Nat} {x : UInt64} (h : own_E n m x) : Jvm.Free.Fl.Fin64 x := by
  obtain ⟨s, c, q, h1, -⟩ := h
  exact Jvm.Free.Fl.fin64_core.mpr ⟨s, c, q, h1⟩
theorem own_E_l2d {a : Int64} (h : Small53 a) : own_E a.toInt 0 (FP.l2d a) := by
  have w := l2d_whole h
  obtain ⟨c, q, e⟩ := l2d_shape a
  rw [e] at w
  refine ⟨_, c, q, e, ?_, fun _ => rfl⟩
  have := whole_natAbs w
  rw [show q + ((0 : Nat) : Int) = q by omega]
  exact this
theorem own_exact (s : Bool) {N m : Nat} (hN : N ≤ 9007199254740992) (hm : m ≤ 1000) : ∃ c q, roundRatio b64 s N 1 (-(m : Int)) = .fin s c q ∧ c * 2 ^ (q + m).toNat = N * 2 ^ (-(q + m)).toNat := by
  by_cases h0 : N = 0
  · subst h0
    exact ⟨0, b64.qmin, rfl, by simp⟩
  · obtain ⟨c, q, hf, he⟩ := natFit good_b64 wide_b64 s (n := N) (by rw [show b64.p = 53 from rfl]; exact hN)
    obtain ⟨f1, f2, f3, f4⟩ := hf
    have hq : b64.qmin = -1074 := by decide
    have hq2 : b64.qmax = 971 := by decide
    have ht : b64.tails = 2 ^ 52 := by decide
    have hp : (2 : Nat) ^ b64.p = 2 ^ 53 := by decide
    rw [hq] at f2 f4
    rw [hq2] at f3
    rw [ht] at f4
    rw [hp] at f1
    have hlo : -53 < q := by
      apply Int.lt_of_not_ge
      intro z
      rw [show (q - 0).toNat = 0 by omega] at he
      have h1 : 2 ^ 53 ≤ 2 ^ (0 - q).toNat := Nat.pow_le_pow_right (by decide) (by omega)
      have h2 : 1 * 2 ^ (0 - q).toNat ≤ N * 2 ^ (0 - q).toNat := Nat.mul_le_mul_right _ (by omega)
      omega
    have hc : 2 ^ 52 ≤ c := by
      rcases f4 with h | h
      · omega
      · exact h
    refine ⟨c, q - m, roundRatio_exact good_b64 (by decide) ⟨by rw [hp]; exact f1, by rw [hq]; omega, by rw [hq2]; omega, Or.inr (by rw [ht]; exact hc)⟩ ?_, ?_⟩
    · rw [show (-(m : Int) - (q - m)).toNat = (0 - q).toNat by omega, show (q - m - -(m : Int)).toNat = (q - 0).toNat by omega]
      exact he
    · rw [show (q - m + m).toNat = (q - 0).toNat by omega, show (-(q - m + m)).toNat = (0 - q).toNat by omega]
      rw [Nat.mul_one] at he
      exact he.symm
theorem own_pow2 {c d A B : Nat} {a b : Int} (ea : c * 2 ^ a.toNat = A * 2 ^ (-a).toNat) (eb : d * 2 ^ b.toNat = B * 2 ^ (-b).toNat) : c * d * 2 ^ (a + b).toNat = A * B * 2 ^ (-(a + b)).toNat := by
  have hx : (a + b).toNat + (-a).toNat + (-b).toNat = (-(a + b)).toNat + a.toNat + b.toNat := by omega
  generalize (a + b).toNat = u at *
  generalize (-(a + b)).toNat = v at *
  generalize a.toNat = a1 at *
  generalize (-a).toNat = a2 at *
  generalize b.toNat = b1 at *
  generalize (-b).toNat = b2 at *
  have hp : 0 < 2 ^ a1 * 2 ^ b1 := Nat.mul_pos (Nat.two_pow_pos _) (Nat.two_pow_pos _)
  apply Nat.eq_of_mul_eq_mul_right hp
  have e1 : c * d * 2 ^ u * (2 ^ a1 * 2 ^ b1) = (c * 2 ^ a1) * (d * 2 ^ b1) * 2 ^ u := by
    simp only [Nat.mul_assoc, Nat.mul_comm, Nat.mul_left_comm]
  have e2 : A * B * 2 ^ v * (2 ^ a1 * 2 ^ b1) = A * B * 2 ^ (v + a1 + b1) := by
    rw [Nat.pow_add, Nat.pow_add]; simp only [Nat.mul_assoc]
  have e3 : A * 2 ^ a2 * (B * 2 ^ b2) * 2 ^ u = A * B * 2 ^ (u + a2 + b2) := by
    rw [Nat.pow_add, Nat.pow_add]; simp only [Nat.mul_assoc, Nat.mul_comm, Nat.mul_left_comm]
  rw [e1, e2, ea, eb, e3, hx]
theorem own_E_of {n : Int} {m : Nat} {x : UInt64} {s : Bool} {c : Nat} {q : Int} (hx : val64 x = round b64 (.fin s c q)) (h : c * 2 ^ (q + m).toNat = n.natAbs * 2 ^ (-(q + m)).toNat) (hs : n ≠ 0 → s = decide (n < 0)) (hn : n.natAbs ≤ 9007199254740992) (hm : m ≤ 1000) : own_E n m x := by
  obtain ⟨c', q', h1, h2⟩ := own_exact s hn hm
  have e : round b64 (.fin s c q) = roundRatio b64 s n.natAbs 1 (-(m : Int)) := by
    show roundRatio b64 s c 1 q = _
    refine roundRatio_congr (by decide) (by decide) ?_
    rw [show (q - -(m : Int)).toNat = (q + m).toNat by omega, show (-(m : Int) - q).toNat = (-(q + m)).toNat by omega, Nat.mul_one, Nat.mul_one]
    exact h
  exact ⟨s, c', q', by rw [hx, e, h1], h2, hs⟩
theorem own_sx {n k : Int} {s t : Bool} (h1 : n ≠ 0 → s = decide (n < 0)) (h2 : k ≠ 0 → t = decide (k < 0)) : n * k ≠ 0 → (s != t) = decide (n * k < 0) := by
  intro h
  have hn : n ≠ 0 := fun z => h (by rw [z, Int.zero_mul])
  have hk : k ≠ 0 := fun z => h (by rw [z, Int.mul_zero])
  rw [h1 hn, h2 hk]
  by_cases a : n < 0 <;> by_cases b : k < 0
  · have : ¬ (n * k < 0) := by have := Int.mul_pos_of_neg_of_neg a b; omega
    simp [a, b, this]
  · have : n * k < 0 := Int.mul_neg_of_neg_of_pos a (by omega)
    simp [a, b, this]
  · have : n * k < 0 := Int.mul_neg_of_pos_of_neg (by omega) b
    simp [a, b, this]
  · have : ¬ (n * k < 0) := by have := Int.mul_nonneg (show 0 ≤ n by omega) (show 0 ≤ k by omega); omega
    simp [a, b, this]
theorem own_E_mul {n k : Int} {m l : Nat} {x y : UInt64} (hx : own_E n m x) (hy : own_E k l y) (hb : (n * k).natAbs ≤ 9007199254740992) (hm : m + l ≤ 1000) : own_E (n * k) (m + l) (FP.dmul x y) := by
  obtain ⟨s, c, q, h1, h2, h3⟩ := hx
  obtain ⟨t, d, r, g1, g2, g3⟩ := hy
  have e := val64_dmul x y
  rw [h1, g1] at e
  refine own_E_of (s := s != t) (c := c * d) (q := q + r) e ?_ (own_sx h3 g3) hb hm
  have p := own_pow2 h2 g2
  rw [show q + r + ((m + l : Nat) : Int) = (q + m) + (r + l) by omega, Int.natAbs_mul]
  exact p
theorem own_whole {n : Int} {s : Bool} {c : Nat} {q : Int} (h : c * 2 ^ q.toNat = n.natAbs * 2 ^ (-q).toNat) (hs : n ≠ 0 → s = decide (n < 0)) : Whole n (.fin s c q) := by
  show signed s (c * 2 ^ q.toNat) = n * ((2 ^ (-q).toNat : Nat) : Int)
  rw [h]
  by_cases z : n = 0
  · subst z; simp [signed_zero]
  · rw [hs z, signed_mul]
    congr 1
    by_cases a : n < 0
    · rw [show decide (n < 0) = true from decide_eq_true a]; show -((n.natAbs : Nat) : Int) = n; omega
    · rw [show decide (n < 0) = false from decide_eq_false a]; show ((n.natAbs : Nat) : Int) = n; omega
theorem own_E_add {n k : Int} {m : Nat} {x y : UInt64} (hx : own_E n m x) (hy : own_E k m y) (hb : (n + k).natAbs ≤ 9007199254740992) (hm : m ≤ 1000) : own_E (n + k) m (FP.dadd x y) := by
  obtain ⟨s, c, q, h1, h2, h3⟩ := hx
  obtain ⟨t, d, r, g1, g2, g3⟩ := hy
  have e := val64_dadd x y
  rw [h1, g1] at e
  have w := whole_sum (own_whole h2 h3) (own_whole g2 g3)
  have hmin : min (q + (m : Int)) (r + m) = min q r + m := by omega
  have hu : sumUnits s c (q + m) t d (r + m) (min (q + (m : Int)) (r + m)) = sumUnits s c q t d r (min q r) := by
    show signed s (c * 2 ^ _) + signed t (d * 2 ^ _) = signed s (c * 2 ^ _) + signed t (d * 2 ^ _)
    rw [hmin, show (q + (m : Int) - (min q r + m)).toNat = (q - min q r).toNat by omega, show (r + (m : Int) - (min q r + m)).toNat = (r - min q r).toNat by omega]
  have w' : Whole (n + k) (.fin (sumSign s t (sumUnits s c q t d r (min q r))) (sumUnits s c q t d r (min q r)).natAbs (min q r + m)) := by
    have : exactSum (.fin s c (q + (m : Int))) (.fin t d (r + m)) = .fin (sumSign s t (sumUnits s c q t d r (min q r))) (sumUnits s c q t d r (min q r)).natAbs (min q r + m) := by
      show Datum.fin _ _ _ = _
      rw [hu, hmin]
    rw [← this]; exact w
  exact own_E_of e (whole_natAbs w') (fun z => whole_sign w' z) hb hm
theorem own_E_sub {n k : Int} {m : Nat} {x y : UInt64} (hx : own_E n m x) (hy : own_E k m y) (hb : (n - k).natAbs ≤ 9007199254740992) (hm : m ≤ 1000) : own_E (n - k) m (FP.dsub x y) := by
  obtain ⟨s, c, q, h1, h2, h3⟩ := hx
  obtain ⟨t, d, r, g1, g2, g3⟩ := hy
  have e := val64_dsub x y
  rw [h1, g1] at e
  have w := whole_sum (own_whole h2 h3) (whole_negate (own_whole g2 g3))
  have hmin : min (q + (m : Int)) (r + m) = min q r + m := by omega
  have hu : sumUnits s c (q + m) (!t) d (r + m) (min (q + (m : Int)) (r + m)) = sumUnits s c q (!t) d r (min q r) := by
    show signed s (c * 2 ^ _) + signed (!t) (d * 2 ^ _) = signed s (c * 2 ^ _) + signed (!t) (d * 2 ^ _)
    rw [hmin, show (q + (m : Int) - (min q r + m)).toNat = (q - min q r).toNat by omega, show (r + (m : Int) - (min q r + m)).toNat = (r - min q r).toNat by omega]
  have w' : Whole (n - k) (.fin (sumSign s (!t) (sumUnits s c q (!t) d r (min q r))) (sumUnits s c q (!t) d r (min q r)).natAbs (min q r + m)) := by
    have : exactSum (.fin s c (q + (m : Int))) (.fin (!t) d (r + m)) = .fin (sumSign s (!t) (sumUnits s c q (!t) d r (min q r))) (sumUnits s c q (!t) d r (min q r)).natAbs (min q r + m) := by
      show Datum.fin _ _ _ = _
      rw [hu, hmin]
    rw [← this]; exact w
  exact own_E_of e (whole_natAbs w') (fun z => whole_sign w' z) hb hm
theorem own_E_up {n : Int} {m : Nat} {x : UInt64} (k : Nat) (h : own_E n m x) : own_E (n * ((2 ^ k : Nat) : Int)) (m + k) x := by
  obtain ⟨s, c, q, h1, h2, h3⟩ := h
  refine ⟨s, c, q, h1, ?_, fun z => ?_⟩
  · have p := own_pow2 (c := c) (d := 1) (A := n.natAbs) (B := 2 ^ k) (a := q + m) (b := (k : Int)) h2 (by rw [show ((k : Int)).toNat = k by omega, show (-(k : Int)).toNat = 0 by omega]; omega)
    rw [Nat.mul_one] at p
    rw [Int.natAbs_mul, Int.natAbs_natCast, show q + ((m + k : Nat) : Int) = q + m + k by omega]
    exact p
  · have hn : n ≠ 0 := fun y => z (by rw [y, Int.zero_mul])
    have hk : (0 : Int) < ((2 ^ k : Nat) : Int) := by have := Nat.two_pow_pos k; omega
    rw [h3 hn]
    apply decide_eq_decide.mpr
    constructor
    · intro y; exact Int.mul_neg_of_neg_of_pos y hk
    · intro y
      apply Int.lt_of_not_ge
      intro y2
      have := Int.mul_nonneg y2 (Int.le_of_lt hk)
      omega
theorem own_E_div {n k : Int} {m l : Nat} {x y : UInt64} (hx : own_E n m x) (hy : own_E k l y) (hk : 0 < k) : ∃ sg : Bool, val64 (FP.ddiv x y) = roundRatio b64 sg n.natAbs k.natAbs ((l : Int) - m) ∧ (n ≠ 0 → sg = decide (n < 0)) := by
  obtain ⟨s, c, q, h1, h2, h3⟩ := hx
  obtain ⟨t, d, r, g1, g2, g3⟩ := hy
  have e := val64_ddiv x y
  rw [h1, g1] at e
  have d0 : ¬ d = 0 := fun z => by
    rw [z, Nat.zero_mul] at g2
    have := Nat.mul_pos (show 0 < k.natAbs by omega) (Nat.two_pow_pos (-(r + (l : Int))).toNat)
    omega
  have ht : t = false := by rw [g3 (by omega)]; exact decide_eq_false (by omega)
  subst ht
  refine ⟨s, ?_, h3⟩
  refine e.trans ?_
  show (if d = 0 then (if c = 0 then Datum.nan else .inf _) else roundRatio b64 (s != false) c d (q - r)) = _
  rw [if_neg d0, show (s != false) = s by cases s <;> rfl]
  refine roundRatio_congr (Nat.pos_of_ne_zero d0) (by omega) ?_
  have p := own_pow h2 g2
  rw [show (q - r - ((l : Int) - m)).toNat = ((q + m) - (r + l) - 0).toNat by omega, show ((l : Int) - m - (q - r)).toNat = (0 - ((q + m) - (r + l))).toNat by omega]
  exact p
theorem own_E_half {n : Int} {m : Nat} {x y : UInt64} (k : Nat) (hx : own_E n m x) (hy : own_E ((2 ^ k : Nat) : Int) 0 y) (hb : n.natAbs ≤ 9007199254740992) (hm : m + k ≤ 1000) : own_E n (m + k) (FP.ddiv x y) := by
  have hp : (0 : Int) < ((2 ^ k : Nat) : Int) := by have := Nat.two_pow_pos k; omega
  obtain ⟨sg, h1, h2⟩ := own_E_div hx hy hp
  have e : roundRatio b64 sg n.natAbs (((2 ^ k : Nat) : Int)).natAbs (((0 : Nat) : Int) - m) = roundRatio b64 sg n.natAbs 1 (-((m + k : Nat) : Int)) := by
    refine roundRatio_congr (by omega) (by decide) ?_
    rw [Int.natAbs_natCast, show (((0 : Nat) : Int) - m - -((m + k : Nat) : Int)).toNat = k by omega, show (-((m + k : Nat) : Int) - (((0 : Nat) : Int) - m)).toNat = 0 by omega]
    rw [Nat.mul_one, Nat.pow_zero, Nat.mul_one]
  obtain ⟨c, q, g1, g2⟩ := own_exact sg hb hm
  exact ⟨sg, c, q, by rw [h1, e, g1], g2, h2⟩
/-- two quotients of the same value compare as equal -/
theorem own_E_same {n k n' k' : Int} {m l : Nat} {x y x' y' : UInt64} (hx : own_E n m x) (hy : own_E k l y) (hk : 0 < k) (hx' : own_E n' 0 x') (hy' : own_E k' 0 y') (hk' : 0 < k') (hz : n = 0 ↔ n' = 0) (hsg : n < 0 ↔ n' < 0) (h : n.natAbs * k'.natAbs * 2 ^ ((l : Int) - m).toNat = n'.natAbs * k.natAbs * 2 ^ ((m : Int) - l).toNat) (o : ClassFile.CmpOp) : cmpValue (FP.dcmp (FP.ddiv x y) (FP.ddiv x' y')) o = 0 := by
  obtain ⟨s1, h1, h2⟩ := own_E_div hx hy hk
  obtain ⟨s2, g1, g2⟩ := own_E_div hx' hy' hk'
  have e : ∀ s, roundRatio b64 s n.natAbs k.natAbs ((l : Int) - m) = roundRatio b64 s n'.natAbs k'.natAbs (((0 : Nat) : Int) - ((0 : Nat) : Int)) := fun s => by
    refine roundRatio_congr (by omega) (by omega) ?_
    rw [show ((l : Int) - m - (((0 : Nat) : Int) - ((0 : Nat) : Int))).toNat = ((l : Int) - m).toNat by omega, show (((0 : Nat) : Int) - ((0 : Nat) : Int) - ((l : Int) - m)).toNat = ((m : Int) - l).toNat by omega]
    exact h
  by_cases z : n = 0
  · have z' := hz.mp z
    rw [z'] at g1
    rw [z] at h1
    have hd : FP.Core.dcmp (FP.ddiv x y) (FP.ddiv x' y') = some .eq := dcmp_eq.mpr ⟨by rw [h1]; nofun, by rw [g1]; nofun, by
      rw [h1, g1]
      show signed s1 (0 * _) = signed s2 (0 * _)
      rw [Nat.zero_mul, signed_zero, signed_zero]⟩
    rw [show FP.dcmp (FP.ddiv x y) (FP.ddiv x' y') = _ from hd]
    cases o <;> rfl
  · have z' : n' ≠ 0 := fun y => z (hz.mpr y)
    have hs : s1 = s2 := by rw [h2 z, g2 z']; exact decide_eq_decide.mpr hsg
    rw [e s1, hs] at h1
    exact own_eq0 h1 g1 o
end OwnE
theorem own_and7 (x : Int32) : (x &&& (7 : Int32)) = (0 : Int32) ∨ (x &&& (7 : Int32)) = (1 : Int32) ∨ (x &&& (7 : Int32)) = (2 : Int32) ∨ (x &&& (7 : Int32)) = (3 : Int32) ∨ (x &&& (7 : Int32)) = (4 : Int32) ∨ (x &&& (7 : Int32)) = (5 : Int32) ∨ (x &&& (7 : Int32)) = (6 : Int32) ∨ (x &&& (7 : Int32)) = (7 : Int32) := by
  have h1 := c_mask x 7 3 (by decide) (by decide)
  have h3 : (x &&& (7 : Int32)).toInt = 0 ∨ (x &&& (7 : Int32)).toInt = 1 ∨ (x &&& (7 : Int32)).toInt = 2 ∨ (x &&& (7 : Int32)).toInt = 3 ∨ (x &&& (7 : Int32)).toInt = 4 ∨ (x &&& (7 : Int32)).toInt = 5 ∨ (x &&& (7 : Int32)).toInt = 6 ∨ (x &&& (7 : Int32)).toInt = 7 := by rw [h1]; omega
  rcases h3 with h | h | h | h | h | h | h | h
  · exact (Or.inl (Int32.toInt_inj.mp h))
  · exact (Or.inr (Or.inl (Int32.toInt_inj.mp h)))
  · exact (Or.inr (Or.inr (Or.inl (Int32.toInt_inj.mp h))))
  · exact (Or.inr (Or.inr (Or.inr (Or.inl (Int32.toInt_inj.mp h)))))
  · exact (Or.inr (Or.inr (Or.inr (Or.inr (Or.inl (Int32.toInt_inj.mp h))))))
  · exact (Or.inr (Or.inr (Or.inr (Or.inr (Or.inr (Or.inl (Int32.toInt_inj.mp h)))))))
  · exact (Or.inr (Or.inr (Or.inr (Or.inr (Or.inr (Or.inr (Or.inl (Int32.toInt_inj.mp h))))))))
  · exact (Or.inr (Or.inr (Or.inr (Or.inr (Or.inr (Or.inr (Or.inr (Int32.toInt_inj.mp h))))))))
theorem own_mod9 (x : Int32) : ((x &&& (2147483647 : Int32)) % (9 : Int32)) = (0 : Int32) ∨ ((x &&& (2147483647 : Int32)) % (9 : Int32)) = (1 : Int32) ∨ ((x &&& (2147483647 : Int32)) % (9 : Int32)) = (2 : Int32) ∨ ((x &&& (2147483647 : Int32)) % (9 : Int32)) = (3 : Int32) ∨ ((x &&& (2147483647 : Int32)) % (9 : Int32)) = (4 : Int32) ∨ ((x &&& (2147483647 : Int32)) % (9 : Int32)) = (5 : Int32) ∨ ((x &&& (2147483647 : Int32)) % (9 : Int32)) = (6 : Int32) ∨ ((x &&& (2147483647 : Int32)) % (9 : Int32)) = (7 : Int32) ∨ ((x &&& (2147483647 : Int32)) % (9 : Int32)) = (8 : Int32) := by
  have h1 := c_mask x 2147483647 31 (by decide) (by decide)
  have h2 := (c_irem (x &&& (2147483647 : Int32)) (9 : Int32) 9 rfl).1 (by rw [h1]; omega)
  rw [h1] at h2
  have h3 : ((x &&& (2147483647 : Int32)) % (9 : Int32)).toInt = 0 ∨ ((x &&& (2147483647 : Int32)) % (9 : Int32)).toInt = 1 ∨ ((x &&& (2147483647 : Int32)) % (9 : Int32)).toInt = 2 ∨ ((x &&& (2147483647 : Int32)) % (9 : Int32)).toInt = 3 ∨ ((x &&& (2147483647 : Int32)) % (9 : Int32)).toInt = 4 ∨ ((x &&& (2147483647 : Int32)) % (9 : Int32)).toInt = 5 ∨ ((x &&& (2147483647 : Int32)) % (9 : Int32)).toInt = 6 ∨ ((x &&& (2147483647 : Int32)) % (9 : Int32)).toInt = 7 ∨ ((x &&& (2147483647 : Int32)) % (9 : Int32)).toInt = 8 := by omega
  rcases h3 with h | h | h | h | h | h | h | h | h
  · exact (Or.inl (Int32.toInt_inj.mp h))
  · exact (Or.inr (Or.inl (Int32.toInt_inj.mp h)))
  · exact (Or.inr (Or.inr (Or.inl (Int32.toInt_inj.mp h))))
  · exact (Or.inr (Or.inr (Or.inr (Or.inl (Int32.toInt_inj.mp h)))))
  · exact (Or.inr (Or.inr (Or.inr (Or.inr (Or.inl (Int32.toInt_inj.mp h))))))
  · exact (Or.inr (Or.inr (Or.inr (Or.inr (Or.inr (Or.inl (Int32.toInt_inj.mp h)))))))
  · exact (Or.inr (Or.inr (Or.inr (Or.inr (Or.inr (Or.inr (Or.inl (Int32.toInt_inj.mp h))))))))
  · exact (Or.inr (Or.inr (Or.inr (Or.inr (Or.inr (Or.inr (Or.inr (Or.inl (Int32.toInt_inj.mp h)))))))))
  · exact (Or.inr (Or.inr (Or.inr (Or.inr (Or.inr (Or.inr (Or.inr (Or.inr (Int32.toInt_inj.mp h)))))))))
section OwnG
open Jvm.FP.Core
def own_H (i t dl k j : Int32) (sc : Int64) (m : Nat) : Prop := (-65535 ≤ i.toInt ∧ i.toInt ≤ 65535) ∧ (0 ≤ t.toInt ∧ t.toInt ≤ 65535) ∧ (0 ≤ dl.toInt ∧ dl.toInt ≤ 1048575) ∧ (0 ≤ k.toInt ∧ k.toInt ≤ 1023) ∧ (0 ≤ j.toInt ∧ j.toInt ≤ 8) ∧ m ≤ 7 ∧ sc.toInt = ((2 ^ m : Nat) : Int)
theorem own_hsc (v : Int32) : ∃ m, m ≤ 7 ∧ (((1 : Int64) <<< ((v &&& (7 : Int32)) &&& 0x3f).toInt64)).toInt = ((2 ^ m : Nat) : Int) := by
  rcases own_and7 v with h | h | h | h | h | h | h | h <;> rw [h]
  · exact ⟨0, by decide, by decide⟩
  · exact ⟨1, by decide, by decide⟩
  · exact ⟨2, by decide, by decide⟩
  · exact ⟨3, by decide, by decide⟩
  · exact ⟨4, by decide, by decide⟩
  · exact ⟨5, by decide, by decide⟩
  · exact ⟨6, by decide, by decide⟩
  · exact ⟨7, by decide, by decide⟩
theorem own_hj (x : Int32) : 0 ≤ ((x &&& (2147483647 : Int32)) % (9 : Int32)).toInt ∧ ((x &&& (2147483647 : Int32)) % (9 : Int32)).toInt ≤ 8 := by
  rcases own_mod9 x with h | h | h | h | h | h | h | h | h <;> rw [h] <;> decide
theorem own_hi (x : Int32) : -65535 ≤ (x % (65536 : Int32)).toInt ∧ (x % (65536 : Int32)).toInt ≤ 65535 := by
  have h := c_irem x (65536 : Int32) 65536 rfl
  by_cases c : 0 ≤ x.toInt
  · have := h.1 c
    omega
  · have := h.2 (by omega)
    omega
theorem own_hh (p0_ p1_ p2_ p3_ p4_ p5_ : Int32) : ∃ m, own_H (p0_ % (65536 : Int32)) (p1_ &&& (65535 : Int32)) (p2_ &&& (1048575 : Int32)) (p3_ &&& (1023 : Int32)) ((p4_ &&& (2147483647 : Int32)) % (9 : Int32)) ((1 : Int64) <<< ((p5_ &&& (7 : Int32)) &&& 0x3f).toInt64) m := by
  obtain ⟨m, h1, h2⟩ := own_hsc p5_
  refine ⟨m, own_hi p0_, ?_, ?_, ?_, own_hj p4_, h1, h2⟩
  · have := c_mask p1_ 65535 16 (by decide) (by decide)
    omega
  · have := c_mask p2_ 1048575 20 (by decide) (by decide)
    omega
  · have := c_mask p3_ 1023 10 (by decide) (by decide)
    omega
theorem own_E_i (n : Int32) : own_E n.toInt 0 (FP.i2d n) := by
  have h := own_E_l2d (own_s53 n)
  rw [c_i2l] at h
  rw [own_i2dl]
  exact h
theorem own_E_il (n : Int32) : own_E n.toInt 0 (FP.l2d (n.toInt64)) := by
  have h := own_E_l2d (own_s53 n)
  rw [c_i2l] at h
  exact h
theorem own_c4 : (4616189618054758400 : UInt64) = FP.l2d 4 := by decide +kernel
theorem own_c8 : (4620693217682128896 : UInt64) = FP.l2d 8 := by decide +kernel
theorem own_s4 : Small53 4 := ⟨by decide, by decide⟩
theorem own_s8 : Small53 8 := ⟨by decide, by decide⟩
theorem own_s1 : Small53 1 := ⟨by decide, by decide⟩
theorem own_E4 : own_E ((2 ^ 2 : Nat) : Int) 0 (4616189618054758400 : UInt64) := by rw [own_c4]; exact own_E_l2d own_s4
theorem own_E8 : own_E ((2 ^ 3 : Nat) : Int) 0 (4620693217682128896 : UInt64) := by rw [own_c8]; exact own_E_l2d own_s8
theorem own_E1 : own_E 1 0 (4607182418800017408 : UInt64) := by rw [← own_l2d1]; exact own_E_l2d own_s1
variable {i t dl k j : Int32} {sc : Int64} {m : Nat}
theorem own_SAT (H : own_H i t dl k j sc m) : own_E k.toInt 2 (FP.ddiv (FP.i2d k) (4616189618054758400 : UInt64)) := own_E_half 2 (own_E_i k) own_E4 (by have := rng32 k; omega) (by decide)
theorem own_B (H : own_H i t dl k j sc m) : own_E j.toInt 3 (FP.ddiv (FP.i2d j) (4620693217682128896 : UInt64)) := own_E_half 3 (own_E_i j) own_E8 (by have := rng32 j; omega) (by decide)
theorem own_p7 {m : Nat} (h : m ≤ 7) : 1 ≤ 2 ^ m ∧ 2 ^ m ≤ 128 := ⟨Nat.two_pow_pos m, (Nat.pow_le_pow_right (by decide) h : 2 ^ m ≤ 2 ^ 7)⟩
theorem own_AVG (H : own_H i t dl k j sc m) : own_E ((2 ^ m : Nat) : Int) 0 (FP.l2d sc) := by
  have p := own_p7 H.2.2.2.2.2.1
  have h := own_E_l2d (a := sc) ⟨by rw [H.2.2.2.2.2.2]; omega, by rw [H.2.2.2.2.2.2]; omega⟩
  rw [H.2.2.2.2.2.2] at h
  exact h
theorem own_e1 (H : own_H i t dl k j sc m) : own_E dl.toInt m (FP.ddiv (FP.l2d (dl.toInt64)) (FP.l2d sc)) := by
  have h := own_E_half m (own_E_il dl) (own_AVG H) (by have := rng32 dl; omega) (by have := H.2.2.2.2.2.1; omega)
  rw [Nat.zero_add] at h
  exact h
theorem own_e2 (H : own_H i t dl k j sc m) : own_E (8 - j.toInt) 3 (FP.dsub (4607182418800017408 : UInt64) (FP.ddiv (FP.i2d j) (4620693217682128896 : UInt64))) := own_E_sub (own_E_up 3 own_E1) (own_B H) (by obtain ⟨-, -, -, -, h, -⟩ := H; omega) (by decide)
theorem own_nm {x y : Int} {a b : Nat} (h1 : x.natAbs ≤ a) (h2 : y.natAbs ≤ b) : (x * y).natAbs ≤ a * b := by rw [Int.natAbs_mul]; exact Nat.mul_le_mul h1 h2
theorem own_b3 (H : own_H i t dl k j sc m) : (j.toInt * dl.toInt).natAbs ≤ 8 * 1048575 := by obtain ⟨-, -, h, -, g, -⟩ := H; exact own_nm (by omega) (by omega)
theorem own_e3 (H : own_H i t dl k j sc m) : own_E (j.toInt * dl.toInt) (3 + m) (FP.dmul (FP.ddiv (FP.i2d j) (4620693217682128896 : UInt64)) (FP.ddiv (FP.l2d (dl.toInt64)) (FP.l2d sc))) := own_E_mul (own_B H) (own_e1 H) (by have := own_b3 H; omega) (by have := H.2.2.2.2.2.1; omega)
theorem own_b4 (H : own_H i t dl k j sc m) : ((8 - j.toInt) * ((2 ^ m : Nat) : Int)).natAbs ≤ 8 * 128 := by have p := own_p7 H.2.2.2.2.2.1; obtain ⟨-, -, -, -, g, -⟩ := H; exact own_nm (by omega) (by omega)
theorem own_e4 (H : own_H i t dl k j sc m) : own_E ((8 - j.toInt) * ((2 ^ m : Nat) : Int) + j.toInt * dl.toInt) (3 + m) (FP.dadd (FP.dsub (4607182418800017408 : UInt64) (FP.ddiv (FP.i2d j) (4620693217682128896 : UInt64))) (FP.dmul (FP.ddiv (FP.i2d j) (4620693217682128896 : UInt64)) (FP.ddiv (FP.l2d (dl.toInt64)) (FP.l2d sc)))) := own_E_add (own_E_up m (own_e2 H)) (own_e3 H) (by have := own_b3 H; have := own_b4 H; omega) (by have := H.2.2.2.2.2.1; omega)
theorem own_b5 (H : own_H i t dl k j sc m) : (i.toInt * t.toInt).natAbs ≤ 65535 * 65535 := by obtain ⟨h, g, -⟩ := H; exact own_nm (by omega) (by omega)
theorem own_e5 (H : own_H i t dl k j sc m) : own_E (i.toInt * t.toInt) 0 (FP.dmul (FP.i2d i) (FP.l2d (t.toInt64))) := own_E_mul (own_E_i i) (own_E_il t) (by have := own_b5 H; omega) (by decide)
theorem own_e6 (H : own_H i t dl k j sc m) : own_E (k.toInt + 4) 2 (FP.dadd (FP.ddiv (FP.i2d k) (4616189618054758400 : UInt64)) (4607182418800017408 : UInt64)) := own_E_add (own_SAT H) (own_E_up 2 own_E1) (by obtain ⟨-, -, -, h, -⟩ := H; omega) (by decide)
theorem own_b7 (H : own_H i t dl k j sc m) : (i.toInt * t.toInt * (k.toInt + 4)).natAbs ≤ 65535 * 65535 * 1027 := own_nm (own_b5 H) (by obtain ⟨-, -, -, h, -⟩ := H; omega)
theorem own_e7 (H : own_H i t dl k j sc m) : own_E (i.toInt * t.toInt * (k.toInt + 4)) 2 (FP.dmul (FP.dmul (FP.i2d i) (FP.l2d (t.toInt64))) (FP.dadd (FP.ddiv (FP.i2d k) (4616189618054758400 : UInt64)) (4607182418800017408 : UInt64))) := own_E_mul (own_e5 H) (own_e6 H) (by have := own_b7 H; omega) (by decide)
theorem own_b8 (H : own_H i t dl k j sc m) : (k.toInt * ((8 - j.toInt) * ((2 ^ m : Nat) : Int) + j.toInt * dl.toInt)).natAbs ≤ 1023 * (8 * 128 + 8 * 1048575) := own_nm (by obtain ⟨-, -, -, h, -⟩ := H; omega) (by have := own_b3 H; have := own_b4 H; omega)
theorem own_e8 (H : own_H i t dl k j sc m) : own_E (k.toInt * ((8 - j.toInt) * ((2 ^ m : Nat) : Int) + j.toInt * dl.toInt)) (2 + (3 + m)) (FP.dmul (FP.ddiv (FP.i2d k) (4616189618054758400 : UInt64)) (FP.dadd (FP.dsub (4607182418800017408 : UInt64) (FP.ddiv (FP.i2d j) (4620693217682128896 : UInt64))) (FP.dmul (FP.ddiv (FP.i2d j) (4620693217682128896 : UInt64)) (FP.ddiv (FP.l2d (dl.toInt64)) (FP.l2d sc))))) := own_E_mul (own_SAT H) (own_e4 H) (by have := own_b8 H; omega) (by have := H.2.2.2.2.2.1; omega)
theorem own_b9 (H : own_H i t dl k j sc m) : (t.toInt * ((2 ^ (2 + (3 + m)) : Nat) : Int)).natAbs ≤ 65535 * (32 * 128) := by
  have p := own_p7 H.2.2.2.2.2.1
  have q : 2 ^ (2 + (3 + m)) = 32 * 2 ^ m := by rw [← Nat.add_assoc, Nat.pow_add]
  obtain ⟨-, h, -⟩ := H
  exact own_nm (by omega) (by rw [q]; omega)
def own_N (t dl k j : Int32) (m : Nat) : Int := t.toInt * ((2 ^ (2 + (3 + m)) : Nat) : Int) + k.toInt * ((8 - j.toInt) * ((2 ^ m : Nat) : Int) + j.toInt * dl.toInt)
theorem own_e9 (H : own_H i t dl k j sc m) : own_E (own_N t dl k j m) (2 + (3 + m)) (FP.dadd (FP.l2d (t.toInt64)) (FP.dmul (FP.ddiv (FP.i2d k) (4616189618054758400 : UInt64)) (FP.dadd (FP.dsub (4607182418800017408 : UInt64) (FP.ddiv (FP.i2d j) (4620693217682128896 : UInt64))) (FP.dmul (FP.ddiv (FP.i2d j) (4620693217682128896 : UInt64)) (FP.ddiv (FP.l2d (dl.toInt64)) (FP.l2d sc)))))) := by
  have h := own_E_up (2 + (3 + m)) (own_E_il t)
  rw [Nat.zero_add] at h
  exact own_E_add h (own_e8 H) (by have := own_b8 H; have := own_b9 H; omega) (by have := H.2.2.2.2.2.1; omega)
theorem own_N0 (H : own_H i t dl k j sc m) : 0 ≤ own_N t dl k j m := by
  obtain ⟨-, h1, h2, h3, h4, -⟩ := H
  unfold own_N
  have a1 : 0 ≤ t.toInt * ((2 ^ (2 + (3 + m)) : Nat) : Int) := Int.mul_nonneg h1.1 (Int.natCast_nonneg _)
  have a2 : 0 ≤ (8 - j.toInt) * ((2 ^ m : Nat) : Int) := Int.mul_nonneg (by omega) (Int.natCast_nonneg _)
  have a3 : 0 ≤ j.toInt * dl.toInt := Int.mul_nonneg h4.1 h2.1
  have a4 : 0 ≤ k.toInt * ((8 - j.toInt) * ((2 ^ m : Nat) : Int) + j.toInt * dl.toInt) := Int.mul_nonneg h3.1 (by omega)
  omega
theorem own_lm {x y : Int64} {a b : Int} (h1 : x.toInt = a) (h2 : y.toInt = b) (h : (a * b).natAbs ≤ 9007199254740992) : (x * y).toInt = a * b := by
  have h3 := c_lmul x y
  have h4 := rng64 (x * y)
  rw [h1, h2] at h3
  generalize a * b = z at *
  omega
theorem own_la {x y : Int64} {a b : Int} (h1 : x.toInt = a) (h2 : y.toInt = b) (h : (a + b).natAbs ≤ 9007199254740992) : (x + y).toInt = a + b := by
  have h3 := c_ladd x y
  have h4 := rng64 (x + y)
  omega
theorem own_DEN (H : own_H i t dl k j sc m) : (((((t.toInt64) * (32 : Int64)) * sc) + ((k.toInt64) * (((((8 : Int32) - j).toInt64) * sc) + ((j.toInt64) * (dl.toInt64)))))).toInt = own_N t dl k j m := by
  have p := own_p7 H.2.2.2.2.2.1
  have q : 2 ^ (2 + (3 + m)) = 32 * 2 ^ m := by rw [← Nat.add_assoc, Nat.pow_add]
  have b8 := own_b8 H
  have b9 := own_b9 H
  have b3 := own_b3 H
  have b4 := own_b4 H
  have hs := H.2.2.2.2.2.2
  obtain ⟨-, h1, h2, h3, h4, -⟩ := H
  have j8 : (((8 : Int32) - j).toInt64).toInt = 8 - j.toInt := by
    rw [c_i2l]
    have := c_isub (8 : Int32) j
    have := rng32 ((8 : Int32) - j)
    have : (8 : Int32).toInt = 8 := rfl
    omega
  have e : t.toInt * 32 * ((2 ^ m : Nat) : Int) = t.toInt * ((2 ^ (2 + (3 + m)) : Nat) : Int) := by rw [q, Int.mul_assoc, Int.natCast_mul]; rfl
  have r1 := own_lm (own_lm (c_i2l t) (show (32 : Int64).toInt = 32 from rfl) (by omega)) hs (by rw [e]; omega)
  have r2 := own_lm j8 hs (by omega)
  have r3 := own_lm (c_i2l j) (c_i2l dl) (by omega)
  have r4 := own_la r2 r3 (by omega)
  have r5 := own_lm (c_i2l k) r4 (by omega)
  rw [own_la r1 r5 (by rw [e]; omega), e]
  rfl
theorem own_b10 (H : own_H i t dl k j sc m) : (i.toInt * t.toInt * (k.toInt + 4) * 8 * ((2 ^ m : Nat) : Int)).natAbs ≤ 65535 * 65535 * 1027 * 8 * 128 := own_nm (own_nm (own_b7 H) (by decide)) (by have p := own_p7 H.2.2.2.2.2.1; omega)
theorem own_NUM (H : own_H i t dl k j sc m) : ((((((i.toInt64) * (t.toInt64)) * ((k + (4 : Int32)).toInt64)) * (8 : Int64)) * sc)).toInt = i.toInt * t.toInt * (k.toInt + 4) * 8 * ((2 ^ m : Nat) : Int) := by
  have b7 := own_b7 H
  have b5 := own_b5 H
  have b10 := own_b10 H
  have k4 : ((k + (4 : Int32)).toInt64).toInt = k.toInt + 4 := by
    rw [c_i2l]
    have := c_iadd k (4 : Int32)
    have := rng32 (k + (4 : Int32))
    have : (4 : Int32).toInt = 4 := rfl
    obtain ⟨-, -, -, h, -⟩ := H
    omega
  exact own_lm (own_lm (own_lm (own_lm (c_i2l i) (c_i2l t) (by omega)) k4 (by omega)) (show (8 : Int64).toInt = 8 from rfl) (by omega)) H.2.2.2.2.2.2 (by omega)
theorem own_Np (H : own_H i t dl k j sc m) (hd : ¬ (((((t.toInt64) * (32 : Int64)) * sc) + ((k.toInt64) * (((((8 : Int32) - j).toInt64) * sc) + ((j.toInt64) * (dl.toInt64))))) = (0 : Int64))) : 0 < own_N t dl k j m := by
  have h1 := own_N0 H
  have h2 : ¬ ((((((t.toInt64) * (32 : Int64)) * sc) + ((k.toInt64) * (((((8 : Int32) - j).toInt64) * sc) + ((j.toInt64) * (dl.toInt64)))))).toInt = 0) := fun z => hd (Int64.toInt_inj.mp z)
  rw [own_DEN H] at h2
  omega
theorem own_ED (H : own_H i t dl k j sc m) : own_E (own_N t dl k j m) 0 (FP.l2d ((((t.toInt64) * (32 : Int64)) * sc) + ((k.toInt64) * (((((8 : Int32) - j).toInt64) * sc) + ((j.toInt64) * (dl.toInt64)))))) := by
  have b8 := own_b8 H
  have b9 := own_b9 H
  have b : (own_N t dl k j m).natAbs ≤ 1000000000000 := by unfold own_N; omega
  have h := own_E_l2d (a := ((((t.toInt64) * (32 : Int64)) * sc) + ((k.toInt64) * (((((8 : Int32) - j).toInt64) * sc) + ((j.toInt64) * (dl.toInt64)))))) ⟨by rw [own_DEN H]; omega, by rw [own_DEN H]; omega⟩
  rw [own_DEN H] at h
  exact h
theorem own_EN (H : own_H i t dl k j sc m) : own_E (i.toInt * t.toInt * (k.toInt + 4) * 8 * ((2 ^ m : Nat) : Int)) 0 (FP.l2d (((((i.toInt64) * (t.toInt64)) * ((k + (4 : Int32)).toInt64)) * (8 : Int64)) * sc)) := by
  have b10 := own_b10 H
  have h := own_E_l2d (a := (((((i.toInt64) * (t.toInt64)) * ((k + (4 : Int32)).toInt64)) * (8 : Int64)) * sc)) ⟨by rw [own_NUM H]; omega, by rw [own_NUM H]; omega⟩
  rw [own_NUM H] at h
  exact h
theorem own_E_dnn {n k : Int} {m l : Nat} {x y : UInt64} (hx : own_E n m x) (hy : own_E k l y) (hk : 0 < k) : Jvm.Free.Fl.NoNaN64 (FP.ddiv x y) := by
  obtain ⟨sg, h1, -⟩ := own_E_div hx hy hk
  exact Jvm.Free.Fl.noNaN64_no.mpr ((notNaN_iff _).mpr (by rw [h1]; exact roundRatio_ne_nan _ _ _ _ _))
theorem own_n10 (H : own_H i t dl k j sc m) (hd : ¬ (((((t.toInt64) * (32 : Int64)) * sc) + ((k.toInt64) * (((((8 : Int32) - j).toInt64) * sc) + ((j.toInt64) * (dl.toInt64))))) = (0 : Int64))) : Jvm.Free.Fl.NoNaN64 (FP.ddiv (FP.dmul (FP.dmul (FP.i2d i) (FP.l2d (t.toInt64))) (FP.dadd (FP.ddiv (FP.i2d k) (4616189618054758400 : UInt64)) (4607182418800017408 : UInt64))) (FP.dadd (FP.l2d (t.toInt64)) (FP.dmul (FP.ddiv (FP.i2d k) (4616189618054758400 : UInt64)) (FP.dadd (FP.dsub (4607182418800017408 : UInt64) (FP.ddiv (FP.i2d j) (4620693217682128896 : UInt64))) (FP.dmul (FP.ddiv (FP.i2d j) (4620693217682128896 : UInt64)) (FP.ddiv (FP.l2d (dl.toInt64)) (FP.l2d sc))))))) := own_E_dnn (own_e7 H) (own_e9 H) (own_Np H hd)
theorem own_nq (H : own_H i t dl k j sc m) (hd : ¬ (((((t.toInt64) * (32 : Int64)) * sc) + ((k.toInt64) * (((((8 : Int32) - j).toInt64) * sc) + ((j.toInt64) * (dl.toInt64))))) = (0 : Int64))) : Jvm.Free.Fl.NoNaN64 (FP.ddiv (FP.l2d (((((i.toInt64) * (t.toInt64)) * ((k + (4 : Int32)).toInt64)) * (8 : Int64)) * sc)) (FP.l2d ((((t.toInt64) * (32 : Int64)) * sc) + ((k.toInt64) * (((((8 : Int32) - j).toInt64) * sc) + ((j.toInt64) * (dl.toInt64))))))) := own_E_dnn (own_EN H) (own_ED H) (own_Np H hd)
theorem own_fin (H : own_H i t dl k j sc m) (hd : ¬ (((((t.toInt64) * (32 : Int64)) * sc) + ((k.toInt64) * (((((8 : Int32) - j).toInt64) * sc) + ((j.toInt64) * (dl.toInt64))))) = (0 : Int64))) : (cmpValue (FP.dcmp (FP.ddiv (FP.dmul (FP.dmul (FP.i2d i) (FP.l2d (t.toInt64))) (FP.dadd (FP.ddiv (FP.i2d k) (4616189618054758400 : UInt64)) (4607182418800017408 : UInt64))) (FP.dadd (FP.l2d (t.toInt64)) (FP.dmul (FP.ddiv (FP.i2d k) (4616189618054758400 : UInt64)) (FP.dadd (FP.dsub (4607182418800017408 : UInt64) (FP.ddiv (FP.i2d j) (4620693217682128896 : UInt64))) (FP.dmul (FP.ddiv (FP.i2d j) (4620693217682128896 : UInt64)) (FP.ddiv (FP.l2d (dl.toInt64)) (FP.l2d sc))))))) (FP.ddiv (FP.l2d (((((i.toInt64) * (t.toInt64)) * ((k + (4 : Int32)).toInt64)) * (8 : Int64)) * sc)) (FP.l2d ((((t.toInt64) * (32 : Int64)) * sc) + ((k.toInt64) * (((((8 : Int32) - j).toInt64) * sc) + ((j.toInt64) * (dl.toInt64)))))))) .l) = (0 : Int32) := by
  have p := own_p7 H.2.2.2.2.2.1
  have q : (8 * ((2 ^ m : Nat) : Int)).natAbs = 2 ^ (3 + m) := by rw [Nat.pow_add]; omega
  have hp : 0 < 8 * ((2 ^ m : Nat) : Int) := by omega
  refine own_E_same (own_e7 H) (own_e9 H) (own_Np H hd) (own_EN H) (own_ED H) (own_Np H hd) ?_ ?_ ?_ .l
  · rw [Int.mul_assoc _ 8]
    generalize i.toInt * t.toInt * (k.toInt + 4) = z
    constructor
    · intro h
      rw [h, Int.zero_mul]
    · intro h
      rcases Int.mul_eq_zero.mp h with h | h
      · exact h
      · omega
  · rw [Int.mul_assoc _ 8]
    generalize i.toInt * t.toInt * (k.toInt + 4) = z
    constructor
    · intro h
      exact Int.mul_neg_of_neg_of_pos h hp
    · intro h
      apply Decidable.by_contra
      intro h2
      have := Int.mul_nonneg (show 0 ≤ z by omega) (show 0 ≤ 8 * ((2 ^ m : Nat) : Int) by omega)
      omega
  · rw [Int.mul_assoc _ 8, Int.natAbs_mul _ (8 * _), q, show (((2 + (3 + m) : Nat) : Int) - ((2 : Nat) : Int)).toNat = 3 + m by omega, show (((2 : Nat) : Int) - ((2 + (3 + m) : Nat) : Int)).toNat = 0 by omega, Nat.pow_zero, Nat.mul_one, Nat.mul_assoc, Nat.mul_assoc, Nat.mul_comm (2 ^ (3 + m))]
theorem own_k1 (H : own_H i t dl k j sc m) : ¬ ((cmpValue (FP.dcmp (FP.ddiv (FP.i2d k) (4616189618054758400 : UInt64)) (0 : UInt64)) .l) < (0 : Int32)) := by
  rw [own_i2dl, own_c4]
  exact own_ge0 (own_s53 _) own_s4 (by decide) (by rw [c_i2l]; exact H.2.2.2.1.1)
theorem own_k2 (H : own_H i t dl k j sc m) : (cmpValue (FP.dcmp (FP.ddiv (FP.i2d k) (4616189618054758400 : UInt64)) (9218868437227405312 : UInt64)) .g) < (0 : Int32) := by
  rw [dcmp_pinf (own_E_fin (own_SAT H))]
  decide
theorem own_k3 (H : own_H i t dl k j sc m) : ¬ ((cmpValue (FP.dcmp (FP.ddiv (FP.i2d j) (4620693217682128896 : UInt64)) (0 : UInt64)) .l) < (0 : Int32)) := by
  rw [own_i2dl, own_c8]
  exact own_ge0 (own_s53 _) own_s8 (by decide) (by rw [c_i2l]; exact H.2.2.2.2.1.1)
theorem own_k4 (H : own_H i t dl k j sc m) : ¬ ((0 : Int32) < (cmpValue (FP.dcmp (FP.ddiv (FP.i2d j) (4620693217682128896 : UInt64)) (4607182418800017408 : UInt64)) .g)) := by
  rw [own_i2dl, own_c8]
  exact own_le1 (own_s53 _) own_s8 (by decide) (by rw [c_i2l]; exact H.2.2.2.2.1.2)
end OwnG
theorem d1_0 : decode prog_18_method_1_code 0 = .ok (.aload_n 0, 1) := by decide +kernel
theorem d1_1 : decode prog_18_method_1_code 1 = .ok (.invokespecial 1, 3) := by decide +kernel
theorem d1_4 : decode prog_18_method_1_code 4 = .ok (.dload_n 1, 1) := by decide +kernel
theorem d1_5 : decode prog_18_method_1_code 5 = .ok (.dconst 0, 1) := by decide +kernel
theorem d1_6 : decode prog_18_method_1_code 6 = .ok (.dcmp .l, 1) := by decide +kernel
theorem d1_7 : decode prog_18_method_1_code 7 = .ok (.ifCond .lt 11, 3) := by decide +kernel
theorem d1_10 : decode prog_18_method_1_code 10 = .ok (.dload_n 1, 1) := by decide +kernel
theorem d1_11 : decode prog_18_method_1_code 11 = .ok (.ldc2_w 9, 3) := by decide +kernel
theorem d1_14 : decode prog_18_method_1_code 14 = .ok (.dcmp .g, 1) := by decide +kernel
theorem d1_15 : decode prog_18_method_1_code 15 = .ok (.ifCond .lt 17, 3) := by decide +kernel
theorem d1_32 : decode prog_18_method_1_code 32 = .ok (.dload_n 3, 1) := by decide +kernel
theorem d1_33 : decode prog_18_method_1_code 33 = .ok (.dconst 0, 1) := by decide +kernel
theorem d1_34 : decode prog_18_method_1_code 34 = .ok (.dcmp .l, 1) := by decide +kernel
theorem d1_35 : decode prog_18_method_1_code 35 = .ok (.ifCond .lt 9, 3) := by decide +kernel
theorem d1_38 : decode prog_18_method_1_code 38 = .ok (.dload_n 3, 1) := by decide +kernel
theorem d1_39 : decode prog_18_method_1_code 39 = .ok (.dconst 1, 1) := by decide +kernel
theorem d1_40 : decode prog_18_method_1_code 40 = .ok (.dcmp .g, 1) := by decide +kernel
theorem d1_41 : decode prog_18_method_1_code 41 = .ok (.ifCond .le 17, 3) := by decide +kernel
theorem d1_58 : decode prog_18_method_1_code 58 = .ok (.aload_n 0, 1) := by decide +kernel
theorem d1_59 : decode prog_18_method_1_code 59 = .ok (.dload_n 1, 1) := by decide +kernel
theorem d1_60 : decode prog_18_method_1_code 60 = .ok (.putfield 21, 3) := by decide +kernel
theorem d1_63 : decode prog_18_method_1_code 63 = .ok (.aload_n 0, 1) := by decide +kernel
theorem d1_64 : decode prog_18_method_1_code 64 = .ok (.dload_n 3, 1) := by decide +kernel
theorem d1_65 : decode prog_18_method_1_code 65 = .ok (.putfield 27, 3) := by decide +kernel
theorem d1_68 : decode prog_18_method_1_code 68 = .ok (.return_, 1) := by decide +kernel
theorem pn_0 : plainName "com/example/inquiry_into_concepts/inquiryintoconcepts/ranking/Bm25" = true := by first | (simp [plainName, overriddenIn]; done) | decide +kernel
theorem efinit1 (m : MethodId) (o0_ : Addr) (d0_ : UInt64) (d1_ : UInt64) : entryFrame m #[(.ref o0_), (.double d0_), (.double d1_)] 5 = mkF m 0 #[.val (.ref o0_), .val (.double d0_), .second, .val (.double d1_), .second] [] := by first | (simp [entryFrame, mkF, argsToLocals, Value.category]; done) | rfl
def Qinit1 (Z : State) (o0_ : Addr) (d0_ : UInt64) (d1_ : UInt64) (h0 : Heap) (n0 : Nat) (v : Option Value) (h : Heap) (L : List Loc) : Prop := v = none ∧ Fr n0 L ∧ Keep h0 h [o0_] ∧ Exa Z h o0_ "com/example/inquiry_into_concepts/inquiryintoconcepts/ranking/Bm25" ∧ Fld Z h o0_ "com/example/inquiry_into_concepts/inquiryintoconcepts/ranking/Bm25" "saturation" "D" (.double d0_) ∧ Fld Z h o0_ "com/example/inquiry_into_concepts/inquiryintoconcepts/ranking/Bm25" "lengthNormalisation" "D" (.double d1_)
set_option maxRecDepth 65536 in
set_option maxHeartbeats 40000000 in
theorem rminit1 (l : Launch) (Z : State) (a0 : Array Value) (hw : ∀ d ∈ tables_1, d.before a0 Z = true) (ws : List Jvm.Cond) (o0_ : Addr) (d0_ : UInt64) (d1_ : UInt64) (h0 : Heap) (n0 : Nat) (O0 : Old Z n0 h0) (ha0 : Jvm.Free.Fl.NoNaN64 d0_) (ha1 : Jvm.Free.Fl.NoNaN64 d1_) (ha2 : ¬ ((cmpValue (FP.dcmp d0_ (0 : UInt64)) .l) < (0 : Int32))) (ha3 : (cmpValue (FP.dcmp d0_ (9218868437227405312 : UInt64)) .g) < (0 : Int32)) (ha4 : ¬ ((cmpValue (FP.dcmp d1_ (0 : UInt64)) .l) < (0 : Int32))) (ha5 : ¬ ((0 : Int32) < (cmpValue (FP.dcmp d1_ (4607182418800017408 : UInt64)) .g))) (P6 : Exa Z h0 o0_ "com/example/inquiry_into_concepts/inquiryintoconcepts/ranking/Bm25") (P7 : Fld Z h0 o0_ "com/example/inquiry_into_concepts/inquiryintoconcepts/ranking/Bm25" "saturation" "D" (.double (0 : UInt64))) (P8 : Fld Z h0 o0_ "com/example/inquiry_into_concepts/inquiryintoconcepts/ranking/Bm25" "lengthNormalisation" "D" (.double (0 : UInt64))) (P9 : n0 ≤ o0_) :
    MetFree l (⟨"com/example/inquiry_into_concepts/inquiryintoconcepts/ranking/Bm25", "<init>", "(DD)V"⟩ : MethodName) (head1 (Jvm.Cond.code (⟨"com/example/inquiry_into_concepts/inquiryintoconcepts/ranking/Bm25", "<init>", "(DD)V"⟩ : MethodName) prog_18_method_1_code 5 none :: ws) ({ frames := 1, cells := 0, slots := 0, locals := 12 } : Room)) (fun a U => a = #[(.ref o0_), (.double d0_), (.double d1_)] ∧ Z.Warmed39 U.vm ∧ U.heap = h0) (fun _ _ _ _ _ => True) (fun _ U o U' => ∃ v L, o = .returned v ∧ Qinit1 Z o0_ d0_ d1_ h0 n0 v U'.heap L ∧ FrameEnd U o U' L ({ frames := 1, cells := 0, slots := 0, locals := 12 } : Room).cells ({ frames := 1, cells := 0, slots := 0, locals := 12 } : Room).slots) := by
  refine MetFree.of_bodySF (plainFor_of_name pn_0) hisR ?_
  intro p e s m args below meth c s₁ Bd hml0 hP hK
  obtain ⟨rfl, hZ, hh⟩ := hP
  have hx := Bd.exec
  have hby := Bd.bytes
  have hml : c.maxLocals = 5 := hml0
  have hown : s.vm.findClass "com/example/inquiry_into_concepts/inquiryintoconcepts/ranking/Bm25" = some m.cls := findClass_of_methodNamed Bd.named
  have hnm := (name_of_methodNamed Bd.named Bd.method).1
  have X0 : Stand p l e ({ frames := 1, cells := 0, slots := 0, locals := 12 } : Room) s m #[(.ref o0_), (.double d0_), (.double d1_)] below meth c s₁ [] 0 0 := Stand.of_body Bd
  have e0 : s₁.heap = h0 := by rw [← hh, Bd.state]; rfl
  have N0 := Fr.nil n0
  have pre0 : ∀ t, Steps p.tables e below (s₁.setTop (mkF m 0 #[.val (.ref o0_), .val (.double d0_), .second, .val (.double d1_), .second] [])) t → Steps p.tables e below (s₁.setTop (entryFrame m #[(.ref o0_), (.double d0_), (.double d1_)] 5)) t := fun t k => castTop (efinit1 m o0_ d0_ d1_) k
  have K0 : Keep h0 h0 [o0_] := Keep.refl _ _
  obtain ⟨T1, X1, e1, st1⟩ := initO X0 hx hZ hown (hw _ (List.mem_of_getElem? (i := 14) rfl)) (hw _ (List.mem_of_getElem? (i := 15) rfl)) (hw _ (List.mem_of_getElem? (i := 16) rfl)) e0 (g := (mkF m 1 #[.val (.ref o0_), .val (.double d0_), .second, .val (.double d1_), .second] [(.ref o0_)])) rfl (by rw [hml]; rfl) rfl (hb hby d1_1) (by decide) (W := 0) (by show 2 * 0 + _ ≤ _; exact Nat.le_of_eq rfl) (by decide)
  obtain ⟨T2, h2, X2, e2, W2, st2⟩ := putF X1 hx hZ hown (host := "") (Or.inl (hw _ (List.mem_of_getElem? (i := 18) rfl))) Via.refl e1 P7 P6 (Or.inr ⟨(hw _ (List.mem_of_getElem? (i := 19) rfl)), rfl, hnm⟩) (hw _ (List.mem_of_getElem? (i := 7) rfl)) (ty := .double) (by decide) rfl rfl (g := (mkF m 60 #[.val (.ref o0_), .val (.double d0_), .second, .val (.double d1_), .second] [(.double d0_), (.ref o0_)])) rfl rfl (hb hby d1_60)
  have N3 := Fr.snoc X2 N0 P9
  have f4 : Fld Z h2 o0_ "com/example/inquiry_into_concepts/inquiryintoconcepts/ranking/Bm25" "saturation" "D" (.double d0_) := P7.same W2
  have f5 : Fld Z h2 o0_ "com/example/inquiry_into_concepts/inquiryintoconcepts/ranking/Bm25" "lengthNormalisation" "D" (.double (0 : UInt64)) := P8.other W2 (Or.inr (slot_ne (Or.inr (hw _ (List.mem_of_getElem? (i := 21) rfl))) (Or.inr (hw _ (List.mem_of_getElem? (i := 19) rfl))) (by decide) (t := .double) (t' := .double) (by decide) (by decide)))
  have f6 : Exa Z h2 o0_ "com/example/inquiry_into_concepts/inquiryintoconcepts/ranking/Bm25" := P6.wr W2
  obtain ⟨T7, h7, X7, e7, W7, st7⟩ := putF X2 hx hZ hown (host := "") (Or.inl (hw _ (List.mem_of_getElem? (i := 20) rfl))) Via.refl e2 f5 f6 (Or.inr ⟨(hw _ (List.mem_of_getElem? (i := 21) rfl)), rfl, hnm⟩) (hw _ (List.mem_of_getElem? (i := 7) rfl)) (ty := .double) (by decide) rfl rfl (g := (mkF m 65 #[.val (.ref o0_), .val (.double d0_), .second, .val (.double d1_), .second] [(.double d1_), (.ref o0_)])) rfl rfl (hb hby d1_65)
  have N8 := Fr.snoc X7 N3 P9
  have f9 : Fld Z h7 o0_ "com/example/inquiry_into_concepts/inquiryintoconcepts/ranking/Bm25" "lengthNormalisation" "D" (.double d1_) := f5.same W7
  have pre10 : ∀ t, Steps p.tables e below (T7.setTop (mkF m 68 #[.val (.ref o0_), .val (.double d0_), .second, .val (.double d1_), .second] [])) t → Steps p.tables e below (s₁.setTop (entryFrame m #[(.ref o0_), (.double d0_), (.double d1_)] 5)) t := by
    intro t kt
    refine pre0 t ?_
    show Steps p.tables e below (s₁.setTop (mkF m 0 #[.val (.ref o0_), .val (.double d0_), .second, .val (.double d1_), .second] [])) _
    refine XS.aloadN X0.here hx rfl (hb hby d1_0) rfl rfl ?_
    show Steps p.tables e below (s₁.setTop (mkF m 1 #[.val (.ref o0_), .val (.double d0_), .second, .val (.double d1_), .second] [(.ref o0_)])) _
    refine st1 _ ?_
    show Steps p.tables e below (T1.setTop (mkF m 4 #[.val (.ref o0_), .val (.double d0_), .second, .val (.double d1_), .second] [])) _
    refine XS.dloadN X1.here hx rfl (hb hby d1_4) rfl ?_
    show Steps p.tables e below (T1.setTop (mkF m 5 #[.val (.ref o0_), .val (.double d0_), .second, .val (.double d1_), .second] [(.double d0_)])) _
    refine XS.dconst0 X1.here hx rfl (hb hby d1_5) rfl ?_
    show Steps p.tables e below (T1.setTop (mkF m 6 #[.val (.ref o0_), .val (.double d0_), .second, .val (.double d1_), .second] [(.double (0 : UInt64)), (.double d0_)])) _
    refine XS.dcmpS X1.here hx rfl (hb hby d1_6) rfl rfl ?_
    show Steps p.tables e below (T1.setTop (mkF m 7 #[.val (.ref o0_), .val (.double d0_), .second, .val (.double d1_), .second] [(.int (cmpValue (FP.dcmp d0_ (0 : UInt64)) .l))])) _
    refine XS.ifNo X1.here hx rfl (hb hby d1_7) rfl ((if0 _ _).trans (flt ha2).1) ?_
    show Steps p.tables e below (T1.setTop (mkF m 10 #[.val (.ref o0_), .val (.double d0_), .second, .val (.double d1_), .second] [])) _
    refine XS.dloadN X1.here hx rfl (hb hby d1_10) rfl ?_
    show Steps p.tables e below (T1.setTop (mkF m 11 #[.val (.ref o0_), .val (.double d0_), .second, .val (.double d1_), .second] [(.double d0_)])) _
    refine X1.ldc2DoubleC hx hown (mvT hZ (hw _ (List.mem_of_getElem? (i := 17) rfl))) (g := (mkF m 11 #[.val (.ref o0_), .val (.double d0_), .second, .val (.double d1_), .second] [(.double d0_)])) rfl (hb hby d1_11) _ ?_
    show Steps p.tables e below (T1.setTop (mkF m 14 #[.val (.ref o0_), .val (.double d0_), .second, .val (.double d1_), .second] [(.double (9218868437227405312 : UInt64)), (.double d0_)])) _
    refine XS.dcmpS X1.here hx rfl (hb hby d1_14) rfl rfl ?_
    show Steps p.tables e below (T1.setTop (mkF m 15 #[.val (.ref o0_), .val (.double d0_), .second, .val (.double d1_), .second] [(.int (cmpValue (FP.dcmp d0_ (9218868437227405312 : UInt64)) .g))])) _
    refine XS.ifYes X1.here hx rfl (pc0 := 15) (pc' := 32) rfl (hb hby d1_15) rfl ((if0 _ _).trans (tlt ha3).1) (by decide) (by decide) ?_
    show Steps p.tables e below (T1.setTop (mkF m 32 #[.val (.ref o0_), .val (.double d0_), .second, .val (.double d1_), .second] [])) _
    refine XS.dloadN X1.here hx rfl (hb hby d1_32) rfl ?_
    show Steps p.tables e below (T1.setTop (mkF m 33 #[.val (.ref o0_), .val (.double d0_), .second, .val (.double d1_), .second] [(.double d1_)])) _
    refine XS.dconst0 X1.here hx rfl (hb hby d1_33) rfl ?_
    show Steps p.tables e below (T1.setTop (mkF m 34 #[.val (.ref o0_), .val (.double d0_), .second, .val (.double d1_), .second] [(.double (0 : UInt64)), (.double d1_)])) _
    refine XS.dcmpS X1.here hx rfl (hb hby d1_34) rfl rfl ?_
    show Steps p.tables e below (T1.setTop (mkF m 35 #[.val (.ref o0_), .val (.double d0_), .second, .val (.double d1_), .second] [(.int (cmpValue (FP.dcmp d1_ (0 : UInt64)) .l))])) _
    refine XS.ifNo X1.here hx rfl (hb hby d1_35) rfl ((if0 _ _).trans (flt ha4).1) ?_
    show Steps p.tables e below (T1.setTop (mkF m 38 #[.val (.ref o0_), .val (.double d0_), .second, .val (.double d1_), .second] [])) _
    refine XS.dloadN X1.here hx rfl (hb hby d1_38) rfl ?_
    show Steps p.tables e below (T1.setTop (mkF m 39 #[.val (.ref o0_), .val (.double d0_), .second, .val (.double d1_), .second] [(.double d1_)])) _
    refine XS.dconst1 X1.here hx rfl (hb hby d1_39) rfl ?_
    show Steps p.tables e below (T1.setTop (mkF m 40 #[.val (.ref o0_), .val (.double d0_), .second, .val (.double d1_), .second] [(.double (4607182418800017408 : UInt64)), (.double d1_)])) _
    refine XS.dcmpS X1.here hx rfl (hb hby d1_40) rfl rfl ?_
    show Steps p.tables e below (T1.setTop (mkF m 41 #[.val (.ref o0_), .val (.double d0_), .second, .val (.double d1_), .second] [(.int (cmpValue (FP.dcmp d1_ (4607182418800017408 : UInt64)) .g))])) _
    refine XS.ifYes X1.here hx rfl (pc0 := 41) (pc' := 58) rfl (hb hby d1_41) rfl ((if0 _ _).trans (flt ha5).2.2.2) (by decide) (by decide) ?_
    show Steps p.tables e below (T1.setTop (mkF m 58 #[.val (.ref o0_), .val (.double d0_), .second, .val (.double d1_), .second] [])) _
    refine XS.aloadN X1.here hx rfl (hb hby d1_58) rfl rfl ?_
    show Steps p.tables e below (T1.setTop (mkF m 59 #[.val (.ref o0_), .val (.double d0_), .second, .val (.double d1_), .second] [(.ref o0_)])) _
    refine XS.dloadN X1.here hx rfl (hb hby d1_59) rfl ?_
    show Steps p.tables e below (T1.setTop (mkF m 60 #[.val (.ref o0_), .val (.double d0_), .second, .val (.double d1_), .second] [(.double d0_), (.ref o0_)])) _
    refine st2 _ ?_
    show Steps p.tables e below (T2.setTop (mkF m 63 #[.val (.ref o0_), .val (.double d0_), .second, .val (.double d1_), .second] [])) _
    refine XS.aloadN X2.here hx rfl (hb hby d1_63) rfl rfl ?_
    show Steps p.tables e below (T2.setTop (mkF m 64 #[.val (.ref o0_), .val (.double d0_), .second, .val (.double d1_), .second] [(.ref o0_)])) _
    refine XS.dloadN X2.here hx rfl (hb hby d1_64) rfl ?_
    show Steps p.tables e below (T2.setTop (mkF m 65 #[.val (.ref o0_), .val (.double d0_), .second, .val (.double d1_), .second] [(.double d1_), (.ref o0_)])) _
    refine st7 _ ?_
    exact kt
  have f12 : Keep h0 h2 [o0_] := K0.wr W2 (Or.inl (List.mem_of_getElem? (i := 0) rfl))
  have f13 : Keep h0 h7 [o0_] := f12.wr W7 (Or.inl (List.mem_of_getElem? (i := 0) rfl))
  have f14 : Exa Z h7 o0_ "com/example/inquiry_into_concepts/inquiryintoconcepts/ranking/Bm25" := f6.wr W7
  have f15 : Fld Z h7 o0_ "com/example/inquiry_into_concepts/inquiryintoconcepts/ranking/Bm25" "saturation" "D" (.double d0_) := f4.other W7 (Or.inr (slot_ne (Or.inr (hw _ (List.mem_of_getElem? (i := 19) rfl))) (Or.inr (hw _ (List.mem_of_getElem? (i := 21) rfl))) (by decide) (t := .double) (t' := .double) (by decide) (by decide)))
  obtain ⟨fs, hr, hrun, hended, hW, hsame⟩ := X7.leave (v := none) (fun _ => rfl)
  refine ⟨_, _, pre10 _ (X7.returnOut hx Bd.returns (hb hby d1_68) hr), hrun, hended, _, _, rfl, ?_, ⟨_, rfl⟩, hW, hsame.mono (by decide) (by decide)⟩
  show Qinit1 Z o0_ d0_ d1_ h0 n0 _ T7.heap _
  rw [e7]
  exact ⟨rfl, N8, f13, f14, f15, f9⟩
theorem pd_0 : parseMethodDescriptor "(DD)V" = some ⟨[.double, .double], none⟩ := by decide +kernel
theorem d2_0 : decode prog_18_method_3_code 0 = .ok (.lload 5, 2) := by decide +kernel
theorem d2_2 : decode prog_18_method_3_code 2 = .ok (.l2d, 1) := by decide +kernel
theorem d2_3 : decode prog_18_method_3_code 3 = .ok (.dload 7, 2) := by decide +kernel
theorem d2_5 : decode prog_18_method_3_code 5 = .ok (.ddiv, 1) := by decide +kernel
theorem d2_6 : decode prog_18_method_3_code 6 = .ok (.dstore 9, 2) := by decide +kernel
theorem d2_8 : decode prog_18_method_3_code 8 = .ok (.dconst 1, 1) := by decide +kernel
theorem d2_9 : decode prog_18_method_3_code 9 = .ok (.aload_n 0, 1) := by decide +kernel
theorem d2_10 : decode prog_18_method_3_code 10 = .ok (.getfield 27, 3) := by decide +kernel
theorem d2_13 : decode prog_18_method_3_code 13 = .ok (.dsub, 1) := by decide +kernel
theorem d2_14 : decode prog_18_method_3_code 14 = .ok (.aload_n 0, 1) := by decide +kernel
theorem d2_15 : decode prog_18_method_3_code 15 = .ok (.getfield 27, 3) := by decide +kernel
theorem d2_18 : decode prog_18_method_3_code 18 = .ok (.dload 9, 2) := by decide +kernel
theorem d2_20 : decode prog_18_method_3_code 20 = .ok (.dmul, 1) := by decide +kernel
theorem d2_21 : decode prog_18_method_3_code 21 = .ok (.dadd, 1) := by decide +kernel
theorem d2_22 : decode prog_18_method_3_code 22 = .ok (.dstore 11, 2) := by decide +kernel
theorem d2_24 : decode prog_18_method_3_code 24 = .ok (.dload_n 1, 1) := by decide +kernel
theorem d2_25 : decode prog_18_method_3_code 25 = .ok (.lload_n 3, 1) := by decide +kernel
theorem d2_26 : decode prog_18_method_3_code 26 = .ok (.l2d, 1) := by decide +kernel
theorem d2_27 : decode prog_18_method_3_code 27 = .ok (.dmul, 1) := by decide +kernel
theorem d2_28 : decode prog_18_method_3_code 28 = .ok (.aload_n 0, 1) := by decide +kernel
theorem d2_29 : decode prog_18_method_3_code 29 = .ok (.getfield 21, 3) := by decide +kernel
theorem d2_32 : decode prog_18_method_3_code 32 = .ok (.dconst 1, 1) := by decide +kernel
theorem d2_33 : decode prog_18_method_3_code 33 = .ok (.dadd, 1) := by decide +kernel
theorem d2_34 : decode prog_18_method_3_code 34 = .ok (.dmul, 1) := by decide +kernel
theorem d2_35 : decode prog_18_method_3_code 35 = .ok (.lload_n 3, 1) := by decide +kernel
theorem d2_36 : decode prog_18_method_3_code 36 = .ok (.l2d, 1) := by decide +kernel
theorem d2_37 : decode prog_18_method_3_code 37 = .ok (.aload_n 0, 1) := by decide +kernel
theorem d2_38 : decode prog_18_method_3_code 38 = .ok (.getfield 21, 3) := by decide +kernel
theorem d2_41 : decode prog_18_method_3_code 41 = .ok (.dload 11, 2) := by decide +kernel
theorem d2_43 : decode prog_18_method_3_code 43 = .ok (.dmul, 1) := by decide +kernel
theorem d2_44 : decode prog_18_method_3_code 44 = .ok (.dadd, 1) := by decide +kernel
theorem d2_45 : decode prog_18_method_3_code 45 = .ok (.ddiv, 1) := by decide +kernel
theorem d2_46 : decode prog_18_method_3_code 46 = .ok (.dreturn, 1) := by decide +kernel
theorem eftermScore2 (m : MethodId) (o0_ : Addr) (d0_ : UInt64) (y1_ : Int64) (y2_ : Int64) (d3_ : UInt64) : entryFrame m #[(.ref o0_), (.double d0_), (.long y1_), (.long y2_), (.double d3_)] 13 = mkF m 0 #[.val (.ref o0_), .val (.double d0_), .second, .val (.long y1_), .second, .val (.long y2_), .second, .val (.double d3_), .second, .unset, .unset, .unset, .unset] [] := by first | (simp [entryFrame, mkF, argsToLocals, Value.category]; done) | rfl
def QtermScore2 (Z : State) (o0_ : Addr) (d0_ : UInt64) (y1_ : Int64) (y2_ : Int64) (d3_ : UInt64) (d4_ : UInt64) (d5_ : UInt64) (h0 : Heap) (n0 : Nat) (v : Option Value) (h : Heap) (L : List Loc) : Prop := v = some (.double (FP.ddiv (FP.dmul (FP.dmul d0_ (FP.l2d y1_)) (FP.dadd d4_ (4607182418800017408 : UInt64))) (FP.dadd (FP.l2d y1_) (FP.dmul d4_ (FP.dadd (FP.dsub (4607182418800017408 : UInt64) d5_) (FP.dmul d5_ (FP.ddiv (FP.l2d y2_) d3_))))))) ∧ Fr n0 L ∧ h = h0
set_option maxRecDepth 65536 in
set_option maxHeartbeats 40000000 in
theorem rmtermScore2 (l : Launch) (Z : State) (a0 : Array Value) (hw : ∀ d ∈ tables_1, d.before a0 Z = true) (ws : List Jvm.Cond) (o0_ : Addr) (d0_ : UInt64) (y1_ : Int64) (y2_ : Int64) (d3_ : UInt64) (d4_ : UInt64) (d5_ : UInt64) (h0 : Heap) (n0 : Nat) (O0 : Old Z n0 h0) (ha0 : Jvm.Free.Fl.NoNaN64 d4_) (ha1 : Jvm.Free.Fl.NoNaN64 d5_) (ha2 : ¬ ((cmpValue (FP.dcmp d4_ (0 : UInt64)) .l) < (0 : Int32))) (ha3 : (cmpValue (FP.dcmp d4_ (9218868437227405312 : UInt64)) .g) < (0 : Int32)) (ha4 : ¬ ((cmpValue (FP.dcmp d5_ (0 : UInt64)) .l) < (0 : Int32))) (ha5 : ¬ ((0 : Int32) < (cmpValue (FP.dcmp d5_ (4607182418800017408 : UInt64)) .g))) (ha6 : Jvm.Free.Fl.NoNaN64 (FP.ddiv (FP.l2d y2_) d3_)) (ha7 : Jvm.Free.Fl.NoNaN64 (FP.dsub (4607182418800017408 : UInt64) d5_)) (ha8 : Jvm.Free.Fl.NoNaN64 (FP.dmul d5_ (FP.ddiv (FP.l2d y2_) d3_))) (ha9 : Jvm.Free.Fl.NoNaN64 (FP.dadd (FP.dsub (4607182418800017408 : UInt64) d5_) (FP.dmul d5_ (FP.ddiv (FP.l2d y2_) d3_)))) (ha10 : Jvm.Free.Fl.NoNaN64 (FP.dmul d0_ (FP.l2d y1_))) (ha11 : Jvm.Free.Fl.NoNaN64 (FP.dadd d4_ (4607182418800017408 : UInt64))) (ha12 : Jvm.Free.Fl.NoNaN64 (FP.dmul (FP.dmul d0_ (FP.l2d y1_)) (FP.dadd d4_ (4607182418800017408 : UInt64)))) (ha13 : Jvm.Free.Fl.NoNaN64 (FP.dmul d4_ (FP.dadd (FP.dsub (4607182418800017408 : UInt64) d5_) (FP.dmul d5_ (FP.ddiv (FP.l2d y2_) d3_))))) (ha14 : Jvm.Free.Fl.NoNaN64 (FP.dadd (FP.l2d y1_) (FP.dmul d4_ (FP.dadd (FP.dsub (4607182418800017408 : UInt64) d5_) (FP.dmul d5_ (FP.ddiv (FP.l2d y2_) d3_)))))) (ha15 : Jvm.Free.Fl.NoNaN64 (FP.ddiv (FP.dmul (FP.dmul d0_ (FP.l2d y1_)) (FP.dadd d4_ (4607182418800017408 : UInt64))) (FP.dadd (FP.l2d y1_) (FP.dmul d4_ (FP.dadd (FP.dsub (4607182418800017408 : UInt64) d5_) (FP.dmul d5_ (FP.ddiv (FP.l2d y2_) d3_))))))) (P16 : Exa Z h0 o0_ "com/example/inquiry_into_concepts/inquiryintoconcepts/ranking/Bm25") (P17 : Fld Z h0 o0_ "com/example/inquiry_into_concepts/inquiryintoconcepts/ranking/Bm25" "saturation" "D" (.double d4_)) (P18 : Fld Z h0 o0_ "com/example/inquiry_into_concepts/inquiryintoconcepts/ranking/Bm25" "lengthNormalisation" "D" (.double d5_)) :
    MetFree l (⟨"com/example/inquiry_into_concepts/inquiryintoconcepts/ranking/Bm25", "termScore", "(DJJD)D"⟩ : MethodName) (head1 (Jvm.Cond.code (⟨"com/example/inquiry_into_concepts/inquiryintoconcepts/ranking/Bm25", "termScore", "(DJJD)D"⟩ : MethodName) prog_18_method_3_code 13 (some .double) :: ws) ({ frames := 0, cells := 0, slots := 0, locals := 0 } : Room)) (fun a U => a = #[(.ref o0_), (.double d0_), (.long y1_), (.long y2_), (.double d3_)] ∧ Z.Warmed39 U.vm ∧ U.heap = h0) (fun _ _ _ _ _ => True) (fun _ U o U' => ∃ v L, o = .returned v ∧ QtermScore2 Z o0_ d0_ y1_ y2_ d3_ d4_ d5_ h0 n0 v U'.heap L ∧ FrameEnd U o U' L ({ frames := 0, cells := 0, slots := 0, locals := 0 } : Room).cells ({ frames := 0, cells := 0, slots := 0, locals := 0 } : Room).slots) := by
  refine MetFree.of_bodySF (plainFor_of_name pn_0) hisR ?_
  intro p e s m args below meth c s₁ Bd hml0 hP hK
  obtain ⟨rfl, hZ, hh⟩ := hP
  have hx := Bd.exec
  have hby := Bd.bytes
  have hml : c.maxLocals = 13 := hml0
  have hown : s.vm.findClass "com/example/inquiry_into_concepts/inquiryintoconcepts/ranking/Bm25" = some m.cls := findClass_of_methodNamed Bd.named
  have hnm := (name_of_methodNamed Bd.named Bd.method).1
  have X0 : Stand p l e ({ frames := 0, cells := 0, slots := 0, locals := 0 } : Room) s m #[(.ref o0_), (.double d0_), (.long y1_), (.long y2_), (.double d3_)] below meth c s₁ [] 0 0 := Stand.of_body Bd
  have e0 : s₁.heap = h0 := by rw [← hh, Bd.state]; rfl
  have N0 := Fr.nil n0
  have pre0 : ∀ t, Steps p.tables e below (s₁.setTop (mkF m 0 #[.val (.ref o0_), .val (.double d0_), .second, .val (.long y1_), .second, .val (.long y2_), .second, .val (.double d3_), .second, .unset, .unset, .unset, .unset] [])) t → Steps p.tables e below (s₁.setTop (entryFrame m #[(.ref o0_), (.double d0_), (.long y1_), (.long y2_), (.double d3_)] 13)) t := fun t k => castTop (eftermScore2 m o0_ d0_ y1_ y2_ d3_) k
  have K0 : Keep h0 h0 [] := Keep.refl _ _
  obtain ⟨T1, X1, e1, st1⟩ := getF X0 hx hZ hown (host := "") (Or.inl (hw _ (List.mem_of_getElem? (i := 20) rfl))) Via.refl e0 P18 (g := (mkF m 10 #[.val (.ref o0_), .val (.double d0_), .second, .val (.long y1_), .second, .val (.long y2_), .second, .val (.double d3_), .second, .val (.double (FP.ddiv (FP.l2d y2_) d3_)), .second, .unset, .unset] [(.ref o0_), (.double (4607182418800017408 : UInt64))])) rfl rfl (hb hby d2_10)
  obtain ⟨T2, X2, e2, st2⟩ := getF X1 hx hZ hown (host := "") (Or.inl (hw _ (List.mem_of_getElem? (i := 20) rfl))) Via.refl e1 P18 (g := (mkF m 15 #[.val (.ref o0_), .val (.double d0_), .second, .val (.long y1_), .second, .val (.long y2_), .second, .val (.double d3_), .second, .val (.double (FP.ddiv (FP.l2d y2_) d3_)), .second, .unset, .unset] [(.ref o0_), (.double (FP.dsub (4607182418800017408 : UInt64) d5_))])) rfl rfl (hb hby d2_15)
  obtain ⟨T3, X3, e3, st3⟩ := getF X2 hx hZ hown (host := "") (Or.inl (hw _ (List.mem_of_getElem? (i := 18) rfl))) Via.refl e2 P17 (g := (mkF m 29 #[.val (.ref o0_), .val (.double d0_), .second, .val (.long y1_), .second, .val (.long y2_), .second, .val (.double d3_), .second, .val (.double (FP.ddiv (FP.l2d y2_) d3_)), .second, .val (.double (FP.dadd (FP.dsub (4607182418800017408 : UInt64) d5_) (FP.dmul d5_ (FP.ddiv (FP.l2d y2_) d3_)))), .second] [(.ref o0_), (.double (FP.dmul d0_ (FP.l2d y1_)))])) rfl rfl (hb hby d2_29)
  obtain ⟨T4, X4, e4, st4⟩ := getF X3 hx hZ hown (host := "") (Or.inl (hw _ (List.mem_of_getElem? (i := 18) rfl))) Via.refl e3 P17 (g := (mkF m 38 #[.val (.ref o0_), .val (.double d0_), .second, .val (.long y1_), .second, .val (.long y2_), .second, .val (.double d3_), .second, .val (.double (FP.ddiv (FP.l2d y2_) d3_)), .second, .val (.double (FP.dadd (FP.dsub (4607182418800017408 : UInt64) d5_) (FP.dmul d5_ (FP.ddiv (FP.l2d y2_) d3_)))), .second] [(.ref o0_), (.double (FP.l2d y1_)), (.double (FP.dmul (FP.dmul d0_ (FP.l2d y1_)) (FP.dadd d4_ (4607182418800017408 : UInt64))))])) rfl rfl (hb hby d2_38)
  have pre5 : ∀ t, Steps p.tables e below (T4.setTop (mkF m 46 #[.val (.ref o0_), .val (.double d0_), .second, .val (.long y1_), .second, .val (.long y2_), .second, .val (.double d3_), .second, .val (.double (FP.ddiv (FP.l2d y2_) d3_)), .second, .val (.double (FP.dadd (FP.dsub (4607182418800017408 : UInt64) d5_) (FP.dmul d5_ (FP.ddiv (FP.l2d y2_) d3_)))), .second] [(.double (FP.ddiv (FP.dmul (FP.dmul d0_ (FP.l2d y1_)) (FP.dadd d4_ (4607182418800017408 : UInt64))) (FP.dadd (FP.l2d y1_) (FP.dmul d4_ (FP.dadd (FP.dsub (4607182418800017408 : UInt64) d5_) (FP.dmul d5_ (FP.ddiv (FP.l2d y2_) d3_)))))))])) t → Steps p.tables e below (s₁.setTop (entryFrame m #[(.ref o0_), (.double d0_), (.long y1_), (.long y2_), (.double d3_)] 13)) t := by
    intro t kt
    refine pre0 t ?_
    show Steps p.tables e below (s₁.setTop (mkF m 0 #[.val (.ref o0_), .val (.double d0_), .second, .val (.long y1_), .second, .val (.long y2_), .second, .val (.double d3_), .second, .unset, .unset, .unset, .unset] [])) _
    refine XS.lload X0.here hx rfl (hb hby d2_0) rfl ?_
    show Steps p.tables e below (s₁.setTop (mkF m 2 #[.val (.ref o0_), .val (.double d0_), .second, .val (.long y1_), .second, .val (.long y2_), .second, .val (.double d3_), .second, .unset, .unset, .unset, .unset] [(.long y2_)])) _
    refine XS.l2dS X0.here hx rfl (hb hby d2_2) rfl rfl ?_
    show Steps p.tables e below (s₁.setTop (mkF m 3 #[.val (.ref o0_), .val (.double d0_), .second, .val (.long y1_), .second, .val (.long y2_), .second, .val (.double d3_), .second, .unset, .unset, .unset, .unset] [(.double (FP.l2d y2_))])) _
    refine XS.dload X0.here hx rfl (hb hby d2_3) rfl ?_
    show Steps p.tables e below (s₁.setTop (mkF m 5 #[.val (.ref o0_), .val (.double d0_), .second, .val (.long y1_), .second, .val (.long y2_), .second, .val (.double d3_), .second, .unset, .unset, .unset, .unset] [(.double d3_), (.double (FP.l2d y2_))])) _
    refine XS.ddivS X0.here hx rfl (hb hby d2_5) rfl ha6 rfl ?_
    show Steps p.tables e below (s₁.setTop (mkF m 6 #[.val (.ref o0_), .val (.double d0_), .second, .val (.long y1_), .second, .val (.long y2_), .second, .val (.double d3_), .second, .unset, .unset, .unset, .unset] [(.double (FP.ddiv (FP.l2d y2_) d3_))])) _
    refine XS.dstore X0.here hx rfl (hb hby d2_6) rfl (l' := #[.val (.ref o0_), .val (.double d0_), .second, .val (.long y1_), .second, .val (.long y2_), .second, .val (.double d3_), .second, .val (.double (FP.ddiv (FP.l2d y2_) d3_)), .second, .unset, .unset]) rfl ?_
    show Steps p.tables e below (s₁.setTop (mkF m 8 #[.val (.ref o0_), .val (.double d0_), .second, .val (.long y1_), .second, .val (.long y2_), .second, .val (.double d3_), .second, .val (.double (FP.ddiv (FP.l2d y2_) d3_)), .second, .unset, .unset] [])) _
    refine XS.dconst1 X0.here hx rfl (hb hby d2_8) rfl ?_
    show Steps p.tables e below (s₁.setTop (mkF m 9 #[.val (.ref o0_), .val (.double d0_), .second, .val (.long y1_), .second, .val (.long y2_), .second, .val (.double d3_), .second, .val (.double (FP.ddiv (FP.l2d y2_) d3_)), .second, .unset, .unset] [(.double (4607182418800017408 : UInt64))])) _
    refine XS.aloadN X0.here hx rfl (hb hby d2_9) rfl rfl ?_
    show Steps p.tables e below (s₁.setTop (mkF m 10 #[.val (.ref o0_), .val (.double d0_), .second, .val (.long y1_), .second, .val (.long y2_), .second, .val (.double d3_), .second, .val (.double (FP.ddiv (FP.l2d y2_) d3_)), .second, .unset, .unset] [(.ref o0_), (.double (4607182418800017408 : UInt64))])) _
    refine st1 _ ?_
    show Steps p.tables e below (T1.setTop (mkF m 13 #[.val (.ref o0_), .val (.double d0_), .second, .val (.long y1_), .second, .val (.long y2_), .second, .val (.double d3_), .second, .val (.double (FP.ddiv (FP.l2d y2_) d3_)), .second, .unset, .unset] [(.double d5_), (.double (4607182418800017408 : UInt64))])) _
    refine XS.dsubS X1.here hx rfl (hb hby d2_13) rfl ha7 rfl ?_
    show Steps p.tables e below (T1.setTop (mkF m 14 #[.val (.ref o0_), .val (.double d0_), .second, .val (.long y1_), .second, .val (.long y2_), .second, .val (.double d3_), .second, .val (.double (FP.ddiv (FP.l2d y2_) d3_)), .second, .unset, .unset] [(.double (FP.dsub (4607182418800017408 : UInt64) d5_))])) _
    refine XS.aloadN X1.here hx rfl (hb hby d2_14) rfl rfl ?_
    show Steps p.tables e below (T1.setTop (mkF m 15 #[.val (.ref o0_), .val (.double d0_), .second, .val (.long y1_), .second, .val (.long y2_), .second, .val (.double d3_), .second, .val (.double (FP.ddiv (FP.l2d y2_) d3_)), .second, .unset, .unset] [(.ref o0_), (.double (FP.dsub (4607182418800017408 : UInt64) d5_))])) _
    refine st2 _ ?_
    show Steps p.tables e below (T2.setTop (mkF m 18 #[.val (.ref o0_), .val (.double d0_), .second, .val (.long y1_), .second, .val (.long y2_), .second, .val (.double d3_), .second, .val (.double (FP.ddiv (FP.l2d y2_) d3_)), .second, .unset, .unset] [(.double d5_), (.double (FP.dsub (4607182418800017408 : UInt64) d5_))])) _
    refine XS.dload X2.here hx rfl (hb hby d2_18) rfl ?_
    show Steps p.tables e below (T2.setTop (mkF m 20 #[.val (.ref o0_), .val (.double d0_), .second, .val (.long y1_), .second, .val (.long y2_), .second, .val (.double d3_), .second, .val (.double (FP.ddiv (FP.l2d y2_) d3_)), .second, .unset, .unset] [(.double (FP.ddiv (FP.l2d y2_) d3_)), (.double d5_), (.double (FP.dsub (4607182418800017408 : UInt64) d5_))])) _
    refine XS.dmulS X2.here hx rfl (hb hby d2_20) rfl ha8 rfl ?_
    show Steps p.tables e below (T2.setTop (mkF m 21 #[.val (.ref o0_), .val (.double d0_), .second, .val (.long y1_), .second, .val (.long y2_), .second, .val (.double d3_), .second, .val (.double (FP.ddiv (FP.l2d y2_) d3_)), .second, .unset, .unset] [(.double (FP.dmul d5_ (FP.ddiv (FP.l2d y2_) d3_))), (.double (FP.dsub (4607182418800017408 : UInt64) d5_))])) _
    refine XS.daddS X2.here hx rfl (hb hby d2_21) rfl ha9 rfl ?_
    show Steps p.tables e below (T2.setTop (mkF m 22 #[.val (.ref o0_), .val (.double d0_), .second, .val (.long y1_), .second, .val (.long y2_), .second, .val (.double d3_), .second, .val (.double (FP.ddiv (FP.l2d y2_) d3_)), .second, .unset, .unset] [(.double (FP.dadd (FP.dsub (4607182418800017408 : UInt64) d5_) (FP.dmul d5_ (FP.ddiv (FP.l2d y2_) d3_))))])) _
    refine XS.dstore X2.here hx rfl (hb hby d2_22) rfl (l' := #[.val (.ref o0_), .val (.double d0_), .second, .val (.long y1_), .second, .val (.long y2_), .second, .val (.double d3_), .second, .val (.double (FP.ddiv (FP.l2d y2_) d3_)), .second, .val (.double (FP.dadd (FP.dsub (4607182418800017408 : UInt64) d5_) (FP.dmul d5_ (FP.ddiv (FP.l2d y2_) d3_)))), .second]) rfl ?_
    show Steps p.tables e below (T2.setTop (mkF m 24 #[.val (.ref o0_), .val (.double d0_), .second, .val (.long y1_), .second, .val (.long y2_), .second, .val (.double d3_), .second, .val (.double (FP.ddiv (FP.l2d y2_) d3_)), .second, .val (.double (FP.dadd (FP.dsub (4607182418800017408 : UInt64) d5_) (FP.dmul d5_ (FP.ddiv (FP.l2d y2_) d3_)))), .second] [])) _
    refine XS.dloadN X2.here hx rfl (hb hby d2_24) rfl ?_
    show Steps p.tables e below (T2.setTop (mkF m 25 #[.val (.ref o0_), .val (.double d0_), .second, .val (.long y1_), .second, .val (.long y2_), .second, .val (.double d3_), .second, .val (.double (FP.ddiv (FP.l2d y2_) d3_)), .second, .val (.double (FP.dadd (FP.dsub (4607182418800017408 : UInt64) d5_) (FP.dmul d5_ (FP.ddiv (FP.l2d y2_) d3_)))), .second] [(.double d0_)])) _
    refine XS.lloadN X2.here hx rfl (hb hby d2_25) rfl ?_
    show Steps p.tables e below (T2.setTop (mkF m 26 #[.val (.ref o0_), .val (.double d0_), .second, .val (.long y1_), .second, .val (.long y2_), .second, .val (.double d3_), .second, .val (.double (FP.ddiv (FP.l2d y2_) d3_)), .second, .val (.double (FP.dadd (FP.dsub (4607182418800017408 : UInt64) d5_) (FP.dmul d5_ (FP.ddiv (FP.l2d y2_) d3_)))), .second] [(.long y1_), (.double d0_)])) _
    refine XS.l2dS X2.here hx rfl (hb hby d2_26) rfl rfl ?_
    show Steps p.tables e below (T2.setTop (mkF m 27 #[.val (.ref o0_), .val (.double d0_), .second, .val (.long y1_), .second, .val (.long y2_), .second, .val (.double d3_), .second, .val (.double (FP.ddiv (FP.l2d y2_) d3_)), .second, .val (.double (FP.dadd (FP.dsub (4607182418800017408 : UInt64) d5_) (FP.dmul d5_ (FP.ddiv (FP.l2d y2_) d3_)))), .second] [(.double (FP.l2d y1_)), (.double d0_)])) _
    refine XS.dmulS X2.here hx rfl (hb hby d2_27) rfl ha10 rfl ?_
    show Steps p.tables e below (T2.setTop (mkF m 28 #[.val (.ref o0_), .val (.double d0_), .second, .val (.long y1_), .second, .val (.long y2_), .second, .val (.double d3_), .second, .val (.double (FP.ddiv (FP.l2d y2_) d3_)), .second, .val (.double (FP.dadd (FP.dsub (4607182418800017408 : UInt64) d5_) (FP.dmul d5_ (FP.ddiv (FP.l2d y2_) d3_)))), .second] [(.double (FP.dmul d0_ (FP.l2d y1_)))])) _
    refine XS.aloadN X2.here hx rfl (hb hby d2_28) rfl rfl ?_
    show Steps p.tables e below (T2.setTop (mkF m 29 #[.val (.ref o0_), .val (.double d0_), .second, .val (.long y1_), .second, .val (.long y2_), .second, .val (.double d3_), .second, .val (.double (FP.ddiv (FP.l2d y2_) d3_)), .second, .val (.double (FP.dadd (FP.dsub (4607182418800017408 : UInt64) d5_) (FP.dmul d5_ (FP.ddiv (FP.l2d y2_) d3_)))), .second] [(.ref o0_), (.double (FP.dmul d0_ (FP.l2d y1_)))])) _
    refine st3 _ ?_
    show Steps p.tables e below (T3.setTop (mkF m 32 #[.val (.ref o0_), .val (.double d0_), .second, .val (.long y1_), .second, .val (.long y2_), .second, .val (.double d3_), .second, .val (.double (FP.ddiv (FP.l2d y2_) d3_)), .second, .val (.double (FP.dadd (FP.dsub (4607182418800017408 : UInt64) d5_) (FP.dmul d5_ (FP.ddiv (FP.l2d y2_) d3_)))), .second] [(.double d4_), (.double (FP.dmul d0_ (FP.l2d y1_)))])) _
    refine XS.dconst1 X3.here hx rfl (hb hby d2_32) rfl ?_
    show Steps p.tables e below (T3.setTop (mkF m 33 #[.val (.ref o0_), .val (.double d0_), .second, .val (.long y1_), .second, .val (.long y2_), .second, .val (.double d3_), .second, .val (.double (FP.ddiv (FP.l2d y2_) d3_)), .second, .val (.double (FP.dadd (FP.dsub (4607182418800017408 : UInt64) d5_) (FP.dmul d5_ (FP.ddiv (FP.l2d y2_) d3_)))), .second] [(.double (4607182418800017408 : UInt64)), (.double d4_), (.double (FP.dmul d0_ (FP.l2d y1_)))])) _
    refine XS.daddS X3.here hx rfl (hb hby d2_33) rfl ha11 rfl ?_
    show Steps p.tables e below (T3.setTop (mkF m 34 #[.val (.ref o0_), .val (.double d0_), .second, .val (.long y1_), .second, .val (.long y2_), .second, .val (.double d3_), .second, .val (.double (FP.ddiv (FP.l2d y2_) d3_)), .second, .val (.double (FP.dadd (FP.dsub (4607182418800017408 : UInt64) d5_) (FP.dmul d5_ (FP.ddiv (FP.l2d y2_) d3_)))), .second] [(.double (FP.dadd d4_ (4607182418800017408 : UInt64))), (.double (FP.dmul d0_ (FP.l2d y1_)))])) _
    refine XS.dmulS X3.here hx rfl (hb hby d2_34) rfl ha12 rfl ?_
    show Steps p.tables e below (T3.setTop (mkF m 35 #[.val (.ref o0_), .val (.double d0_), .second, .val (.long y1_), .second, .val (.long y2_), .second, .val (.double d3_), .second, .val (.double (FP.ddiv (FP.l2d y2_) d3_)), .second, .val (.double (FP.dadd (FP.dsub (4607182418800017408 : UInt64) d5_) (FP.dmul d5_ (FP.ddiv (FP.l2d y2_) d3_)))), .second] [(.double (FP.dmul (FP.dmul d0_ (FP.l2d y1_)) (FP.dadd d4_ (4607182418800017408 : UInt64))))])) _
    refine XS.lloadN X3.here hx rfl (hb hby d2_35) rfl ?_
    show Steps p.tables e below (T3.setTop (mkF m 36 #[.val (.ref o0_), .val (.double d0_), .second, .val (.long y1_), .second, .val (.long y2_), .second, .val (.double d3_), .second, .val (.double (FP.ddiv (FP.l2d y2_) d3_)), .second, .val (.double (FP.dadd (FP.dsub (4607182418800017408 : UInt64) d5_) (FP.dmul d5_ (FP.ddiv (FP.l2d y2_) d3_)))), .second] [(.long y1_), (.double (FP.dmul (FP.dmul d0_ (FP.l2d y1_)) (FP.dadd d4_ (4607182418800017408 : UInt64))))])) _
    refine XS.l2dS X3.here hx rfl (hb hby d2_36) rfl rfl ?_
    show Steps p.tables e below (T3.setTop (mkF m 37 #[.val (.ref o0_), .val (.double d0_), .second, .val (.long y1_), .second, .val (.long y2_), .second, .val (.double d3_), .second, .val (.double (FP.ddiv (FP.l2d y2_) d3_)), .second, .val (.double (FP.dadd (FP.dsub (4607182418800017408 : UInt64) d5_) (FP.dmul d5_ (FP.ddiv (FP.l2d y2_) d3_)))), .second] [(.double (FP.l2d y1_)), (.double (FP.dmul (FP.dmul d0_ (FP.l2d y1_)) (FP.dadd d4_ (4607182418800017408 : UInt64))))])) _
    refine XS.aloadN X3.here hx rfl (hb hby d2_37) rfl rfl ?_
    show Steps p.tables e below (T3.setTop (mkF m 38 #[.val (.ref o0_), .val (.double d0_), .second, .val (.long y1_), .second, .val (.long y2_), .second, .val (.double d3_), .second, .val (.double (FP.ddiv (FP.l2d y2_) d3_)), .second, .val (.double (FP.dadd (FP.dsub (4607182418800017408 : UInt64) d5_) (FP.dmul d5_ (FP.ddiv (FP.l2d y2_) d3_)))), .second] [(.ref o0_), (.double (FP.l2d y1_)), (.double (FP.dmul (FP.dmul d0_ (FP.l2d y1_)) (FP.dadd d4_ (4607182418800017408 : UInt64))))])) _
    refine st4 _ ?_
    show Steps p.tables e below (T4.setTop (mkF m 41 #[.val (.ref o0_), .val (.double d0_), .second, .val (.long y1_), .second, .val (.long y2_), .second, .val (.double d3_), .second, .val (.double (FP.ddiv (FP.l2d y2_) d3_)), .second, .val (.double (FP.dadd (FP.dsub (4607182418800017408 : UInt64) d5_) (FP.dmul d5_ (FP.ddiv (FP.l2d y2_) d3_)))), .second] [(.double d4_), (.double (FP.l2d y1_)), (.double (FP.dmul (FP.dmul d0_ (FP.l2d y1_)) (FP.dadd d4_ (4607182418800017408 : UInt64))))])) _
    refine XS.dload X4.here hx rfl (hb hby d2_41) rfl ?_
    show Steps p.tables e below (T4.setTop (mkF m 43 #[.val (.ref o0_), .val (.double d0_), .second, .val (.long y1_), .second, .val (.long y2_), .second, .val (.double d3_), .second, .val (.double (FP.ddiv (FP.l2d y2_) d3_)), .second, .val (.double (FP.dadd (FP.dsub (4607182418800017408 : UInt64) d5_) (FP.dmul d5_ (FP.ddiv (FP.l2d y2_) d3_)))), .second] [(.double (FP.dadd (FP.dsub (4607182418800017408 : UInt64) d5_) (FP.dmul d5_ (FP.ddiv (FP.l2d y2_) d3_)))), (.double d4_), (.double (FP.l2d y1_)), (.double (FP.dmul (FP.dmul d0_ (FP.l2d y1_)) (FP.dadd d4_ (4607182418800017408 : UInt64))))])) _
    refine XS.dmulS X4.here hx rfl (hb hby d2_43) rfl ha13 rfl ?_
    show Steps p.tables e below (T4.setTop (mkF m 44 #[.val (.ref o0_), .val (.double d0_), .second, .val (.long y1_), .second, .val (.long y2_), .second, .val (.double d3_), .second, .val (.double (FP.ddiv (FP.l2d y2_) d3_)), .second, .val (.double (FP.dadd (FP.dsub (4607182418800017408 : UInt64) d5_) (FP.dmul d5_ (FP.ddiv (FP.l2d y2_) d3_)))), .second] [(.double (FP.dmul d4_ (FP.dadd (FP.dsub (4607182418800017408 : UInt64) d5_) (FP.dmul d5_ (FP.ddiv (FP.l2d y2_) d3_))))), (.double (FP.l2d y1_)), (.double (FP.dmul (FP.dmul d0_ (FP.l2d y1_)) (FP.dadd d4_ (4607182418800017408 : UInt64))))])) _
    refine XS.daddS X4.here hx rfl (hb hby d2_44) rfl ha14 rfl ?_
    show Steps p.tables e below (T4.setTop (mkF m 45 #[.val (.ref o0_), .val (.double d0_), .second, .val (.long y1_), .second, .val (.long y2_), .second, .val (.double d3_), .second, .val (.double (FP.ddiv (FP.l2d y2_) d3_)), .second, .val (.double (FP.dadd (FP.dsub (4607182418800017408 : UInt64) d5_) (FP.dmul d5_ (FP.ddiv (FP.l2d y2_) d3_)))), .second] [(.double (FP.dadd (FP.l2d y1_) (FP.dmul d4_ (FP.dadd (FP.dsub (4607182418800017408 : UInt64) d5_) (FP.dmul d5_ (FP.ddiv (FP.l2d y2_) d3_)))))), (.double (FP.dmul (FP.dmul d0_ (FP.l2d y1_)) (FP.dadd d4_ (4607182418800017408 : UInt64))))])) _
    refine XS.ddivS X4.here hx rfl (hb hby d2_45) rfl ha15 rfl ?_
    exact kt
  obtain ⟨fs, hr, hrun, hended, hW, hsame⟩ := X4.leave (v := some (.double (FP.ddiv (FP.dmul (FP.dmul d0_ (FP.l2d y1_)) (FP.dadd d4_ (4607182418800017408 : UInt64))) (FP.dadd (FP.l2d y1_) (FP.dmul d4_ (FP.dadd (FP.dsub (4607182418800017408 : UInt64) d5_) (FP.dmul d5_ (FP.ddiv (FP.l2d y2_) d3_)))))))) (fun h => by rw [Bd.returns] at h; cases h)
  refine ⟨_, _, pre5 _ (retOut X4 hx Bd.returns rfl (Or.inr (Or.inr (Or.inl ⟨rfl, rfl, _, rfl⟩))) (hb hby d2_46) hr), hrun, hended, _, _, rfl, ?_, ⟨_, rfl⟩, hW, hsame.mono (by decide) (by decide)⟩
  show QtermScore2 Z o0_ d0_ y1_ y2_ d3_ d4_ d5_ h0 n0 _ T4.heap _
  rw [e4]
  exact ⟨rfl, N0, rfl⟩
theorem pd_1 : parseMethodDescriptor "(DJJD)D" = some ⟨[.double, .long, .long, .double], some .double⟩ := by decide +kernel
theorem pn_1 : plainName "com/example/inquiry_into_concepts/inquiryintoconcepts/ranking/Bm25TermScorePinLaw" = true := by first | (simp [plainName, overriddenIn]; done) | decide +kernel
theorem efLaw (m : MethodId) (p0_ : Int32) (p1_ : Int32) (p2_ : Int32) (p3_ : Int32) (p4_ : Int32) (p5_ : Int32) : entryFrame m #[(.int p0_), (.int p1_), (.int p2_), (.int p3_), (.int p4_), (.int p5_)] maxLocals = mkF m 0 #[.val (.int p0_), .val (.int p1_), .val (.int p2_), .val (.int p3_), .val (.int p4_), .val (.int p5_), .unset, .unset, .unset, .unset, .unset, .unset, .unset, .unset, .unset, .unset, .unset, .unset, .unset, .unset, .unset] [] := by first | (simp [entryFrame, mkF, argsToLocals, Value.category, maxLocals]; done) | rfl
def QLaw (Z : State) (p0_ : Int32) (p1_ : Int32) (p2_ : Int32) (p3_ : Int32) (p4_ : Int32) (p5_ : Int32) (h0 : Heap) (n0 : Nat) (v : Option Value) (h : Heap) (L : List Loc) : Prop := v = some (.int (1 : Int32)) ∧ Fr n0 L
set_option maxRecDepth 65536 in
set_option maxHeartbeats 40000000 in
theorem rmLaw (l : Launch) (Z : State) (a0 : Array Value) (hw : ∀ d ∈ tables_1, d.before a0 Z = true) (ws : List Jvm.Cond) (p0_ : Int32) (p1_ : Int32) (p2_ : Int32) (p3_ : Int32) (p4_ : Int32) (p5_ : Int32) (h0 : Heap) (n0 : Nat) (O0 : Old Z n0 h0)  :
    MetFree l x (head1 (Jvm.Cond.code x code maxLocals ret :: ws) room_1) (fun a U => a = #[(.int p0_), (.int p1_), (.int p2_), (.int p3_), (.int p4_), (.int p5_)] ∧ Z.Warmed39 U.vm ∧ U.heap = h0) (fun _ _ _ _ _ => True) (fun _ U o U' => ∃ v L, o = .returned v ∧ QLaw Z p0_ p1_ p2_ p3_ p4_ p5_ h0 n0 v U'.heap L ∧ FrameEnd U o U' L room_1.cells room_1.slots) := by
  refine MetFree.of_bodySF (plainFor_of_name pn_1) hisR ?_
  intro p e s m args below meth c s₁ Bd hml0 hP hK
  obtain ⟨rfl, hZ, hh⟩ := hP
  have hx := Bd.exec
  have hby := Bd.bytes
  have hml : c.maxLocals = 21 := hml0
  have hown : s.vm.findClass "com/example/inquiry_into_concepts/inquiryintoconcepts/ranking/Bm25TermScorePinLaw" = some m.cls := findClass_of_methodNamed Bd.named
  have hnm := (name_of_methodNamed Bd.named Bd.method).1
  have X0 : Stand p l e room_1 s m #[(.int p0_), (.int p1_), (.int p2_), (.int p3_), (.int p4_), (.int p5_)] below meth c s₁ [] 0 0 := Stand.of_body Bd
  have e0 : s₁.heap = h0 := by rw [← hh, Bd.state]; rfl
  have N0 := Fr.nil n0
  have pre0 : ∀ t, Steps p.tables e below (s₁.setTop (mkF m 0 #[.val (.int p0_), .val (.int p1_), .val (.int p2_), .val (.int p3_), .val (.int p4_), .val (.int p5_), .unset, .unset, .unset, .unset, .unset, .unset, .unset, .unset, .unset, .unset, .unset, .unset, .unset, .unset, .unset] [])) t → Steps p.tables e below (s₁.setTop (entryFrame m #[(.int p0_), (.int p1_), (.int p2_), (.int p3_), (.int p4_), (.int p5_)] maxLocals)) t := fun t k => castTop (efLaw m p0_ p1_ p2_ p3_ p4_ p5_) k
  have K0 : Keep h0 h0 [] := Keep.refl _ _
  obtain ⟨mm, HH⟩ := own_hh p0_ p1_ p2_ p3_ p4_ p5_
  have pre1 : ∀ t, Steps p.tables e below (s₁.setTop (mkF m 86 #[.val (.int p0_), .val (.int p1_), .val (.int p2_), .val (.int p3_), .val (.int p4_), .val (.int p5_), .val (.int (p0_ % (65536 : Int32))), .val (.int (p1_ &&& (65535 : Int32))), .val (.int (p2_ &&& (1048575 : Int32))), .val (.int (p3_ &&& (1023 : Int32))), .val (.int ((p4_ &&& (2147483647 : Int32)) % (9 : Int32))), .val (.int (p5_ &&& (7 : Int32))), .val (.long ((1 : Int64) <<< ((p5_ &&& (7 : Int32)) &&& 0x3f).toInt64)), .second, .val (.long (((((p1_ &&& (65535 : Int32)).toInt64) * (32 : Int64)) * ((1 : Int64) <<< ((p5_ &&& (7 : Int32)) &&& 0x3f).toInt64)) + (((p3_ &&& (1023 : Int32)).toInt64) * (((((8 : Int32) - ((p4_ &&& (2147483647 : Int32)) % (9 : Int32))).toInt64) * ((1 : Int64) <<< ((p5_ &&& (7 : Int32)) &&& 0x3f).toInt64)) + ((((p4_ &&& (2147483647 : Int32)) % (9 : Int32)).toInt64) * ((p2_ &&& (1048575 : Int32)).toInt64)))))), .second, .unset, .unset, .unset, .unset, .unset] [(.int (lcmpW (((((p1_ &&& (65535 : Int32)).toInt64) * (32 : Int64)) * ((1 : Int64) <<< ((p5_ &&& (7 : Int32)) &&& 0x3f).toInt64)) + (((p3_ &&& (1023 : Int32)).toInt64) * (((((8 : Int32) - ((p4_ &&& (2147483647 : Int32)) % (9 : Int32))).toInt64) * ((1 : Int64) <<< ((p5_ &&& (7 : Int32)) &&& 0x3f).toInt64)) + ((((p4_ &&& (2147483647 : Int32)) % (9 : Int32)).toInt64) * ((p2_ &&& (1048575 : Int32)).toInt64))))) (0 : Int64)))])) t → Steps p.tables e below (s₁.setTop (entryFrame m #[(.int p0_), (.int p1_), (.int p2_), (.int p3_), (.int p4_), (.int p5_)] maxLocals)) t := by
    intro t kt
    refine pre0 t ?_
    show Steps p.tables e below (s₁.setTop (mkF m 0 #[.val (.int p0_), .val (.int p1_), .val (.int p2_), .val (.int p3_), .val (.int p4_), .val (.int p5_), .unset, .unset, .unset, .unset, .unset, .unset, .unset, .unset, .unset, .unset, .unset, .unset, .unset, .unset, .unset] [])) _
    refine XS.iloadN X0.here hx rfl (hb hby at_0) rfl ?_
    show Steps p.tables e below (s₁.setTop (mkF m 1 #[.val (.int p0_), .val (.int p1_), .val (.int p2_), .val (.int p3_), .val (.int p4_), .val (.int p5_), .unset, .unset, .unset, .unset, .unset, .unset, .unset, .unset, .unset, .unset, .unset, .unset, .unset, .unset, .unset] [(.int p0_)])) _
    refine X0.ldcInt hx hown (mvT hZ (hw _ (List.mem_of_getElem? (i := 0) rfl))) (g := (mkF m 1 #[.val (.int p0_), .val (.int p1_), .val (.int p2_), .val (.int p3_), .val (.int p4_), .val (.int p5_), .unset, .unset, .unset, .unset, .unset, .unset, .unset, .unset, .unset, .unset, .unset, .unset, .unset, .unset, .unset] [(.int p0_)])) rfl (hb hby at_1) _ ?_
    show Steps p.tables e below (s₁.setTop (mkF m 3 #[.val (.int p0_), .val (.int p1_), .val (.int p2_), .val (.int p3_), .val (.int p4_), .val (.int p5_), .unset, .unset, .unset, .unset, .unset, .unset, .unset, .unset, .unset, .unset, .unset, .unset, .unset, .unset, .unset] [(.int (65536 : Int32)), (.int p0_)])) _
    refine iremM (g := (mkF m 3 #[.val (.int p0_), .val (.int p1_), .val (.int p2_), .val (.int p3_), .val (.int p4_), .val (.int p5_), .unset, .unset, .unset, .unset, .unset, .unset, .unset, .unset, .unset, .unset, .unset, .unset, .unset, .unset, .unset] [(.int (65536 : Int32)), (.int p0_)])) X0 hx rfl (hb hby at_3) rfl (by decide) ?_
    show Steps p.tables e below (s₁.setTop (mkF m 4 #[.val (.int p0_), .val (.int p1_), .val (.int p2_), .val (.int p3_), .val (.int p4_), .val (.int p5_), .unset, .unset, .unset, .unset, .unset, .unset, .unset, .unset, .unset, .unset, .unset, .unset, .unset, .unset, .unset] [(.int (p0_ % (65536 : Int32)))])) _
    refine XS.istore X0.here hx rfl (hb hby at_4) rfl (l' := #[.val (.int p0_), .val (.int p1_), .val (.int p2_), .val (.int p3_), .val (.int p4_), .val (.int p5_), .val (.int (p0_ % (65536 : Int32))), .unset, .unset, .unset, .unset, .unset, .unset, .unset, .unset, .unset, .unset, .unset, .unset, .unset, .unset]) rfl ?_
    show Steps p.tables e below (s₁.setTop (mkF m 6 #[.val (.int p0_), .val (.int p1_), .val (.int p2_), .val (.int p3_), .val (.int p4_), .val (.int p5_), .val (.int (p0_ % (65536 : Int32))), .unset, .unset, .unset, .unset, .unset, .unset, .unset, .unset, .unset, .unset, .unset, .unset, .unset, .unset] [])) _
    refine XS.iloadN X0.here hx rfl (hb hby at_6) rfl ?_
    show Steps p.tables e below (s₁.setTop (mkF m 7 #[.val (.int p0_), .val (.int p1_), .val (.int p2_), .val (.int p3_), .val (.int p4_), .val (.int p5_), .val (.int (p0_ % (65536 : Int32))), .unset, .unset, .unset, .unset, .unset, .unset, .unset, .unset, .unset, .unset, .unset, .unset, .unset, .unset] [(.int p1_)])) _
    refine X0.ldcInt hx hown (mvT hZ (hw _ (List.mem_of_getElem? (i := 1) rfl))) (g := (mkF m 7 #[.val (.int p0_), .val (.int p1_), .val (.int p2_), .val (.int p3_), .val (.int p4_), .val (.int p5_), .val (.int (p0_ % (65536 : Int32))), .unset, .unset, .unset, .unset, .unset, .unset, .unset, .unset, .unset, .unset, .unset, .unset, .unset, .unset] [(.int p1_)])) rfl (hb hby at_7) _ ?_
    show Steps p.tables e below (s₁.setTop (mkF m 9 #[.val (.int p0_), .val (.int p1_), .val (.int p2_), .val (.int p3_), .val (.int p4_), .val (.int p5_), .val (.int (p0_ % (65536 : Int32))), .unset, .unset, .unset, .unset, .unset, .unset, .unset, .unset, .unset, .unset, .unset, .unset, .unset, .unset] [(.int (65535 : Int32)), (.int p1_)])) _
    refine XS.iand X0.here hx rfl (hb hby at_9) rfl ?_
    show Steps p.tables e below (s₁.setTop (mkF m 10 #[.val (.int p0_), .val (.int p1_), .val (.int p2_), .val (.int p3_), .val (.int p4_), .val (.int p5_), .val (.int (p0_ % (65536 : Int32))), .unset, .unset, .unset, .unset, .unset, .unset, .unset, .unset, .unset, .unset, .unset, .unset, .unset, .unset] [(.int (p1_ &&& (65535 : Int32)))])) _
    refine XS.istore X0.here hx rfl (hb hby at_10) rfl (l' := #[.val (.int p0_), .val (.int p1_), .val (.int p2_), .val (.int p3_), .val (.int p4_), .val (.int p5_), .val (.int (p0_ % (65536 : Int32))), .val (.int (p1_ &&& (65535 : Int32))), .unset, .unset, .unset, .unset, .unset, .unset, .unset, .unset, .unset, .unset, .unset, .unset, .unset]) rfl ?_
    show Steps p.tables e below (s₁.setTop (mkF m 12 #[.val (.int p0_), .val (.int p1_), .val (.int p2_), .val (.int p3_), .val (.int p4_), .val (.int p5_), .val (.int (p0_ % (65536 : Int32))), .val (.int (p1_ &&& (65535 : Int32))), .unset, .unset, .unset, .unset, .unset, .unset, .unset, .unset, .unset, .unset, .unset, .unset, .unset] [])) _
    refine XS.iloadN X0.here hx rfl (hb hby at_12) rfl ?_
    show Steps p.tables e below (s₁.setTop (mkF m 13 #[.val (.int p0_), .val (.int p1_), .val (.int p2_), .val (.int p3_), .val (.int p4_), .val (.int p5_), .val (.int (p0_ % (65536 : Int32))), .val (.int (p1_ &&& (65535 : Int32))), .unset, .unset, .unset, .unset, .unset, .unset, .unset, .unset, .unset, .unset, .unset, .unset, .unset] [(.int p2_)])) _
    refine X0.ldcInt hx hown (mvT hZ (hw _ (List.mem_of_getElem? (i := 2) rfl))) (g := (mkF m 13 #[.val (.int p0_), .val (.int p1_), .val (.int p2_), .val (.int p3_), .val (.int p4_), .val (.int p5_), .val (.int (p0_ % (65536 : Int32))), .val (.int (p1_ &&& (65535 : Int32))), .unset, .unset, .unset, .unset, .unset, .unset, .unset, .unset, .unset, .unset, .unset, .unset, .unset] [(.int p2_)])) rfl (hb hby at_13) _ ?_
    show Steps p.tables e below (s₁.setTop (mkF m 15 #[.val (.int p0_), .val (.int p1_), .val (.int p2_), .val (.int p3_), .val (.int p4_), .val (.int p5_), .val (.int (p0_ % (65536 : Int32))), .val (.int (p1_ &&& (65535 : Int32))), .unset, .unset, .unset, .unset, .unset, .unset, .unset, .unset, .unset, .unset, .unset, .unset, .unset] [(.int (1048575 : Int32)), (.int p2_)])) _
    refine XS.iand X0.here hx rfl (hb hby at_15) rfl ?_
    show Steps p.tables e below (s₁.setTop (mkF m 16 #[.val (.int p0_), .val (.int p1_), .val (.int p2_), .val (.int p3_), .val (.int p4_), .val (.int p5_), .val (.int (p0_ % (65536 : Int32))), .val (.int (p1_ &&& (65535 : Int32))), .unset, .unset, .unset, .unset, .unset, .unset, .unset, .unset, .unset, .unset, .unset, .unset, .unset] [(.int (p2_ &&& (1048575 : Int32)))])) _
    refine XS.istore X0.here hx rfl (hb hby at_16) rfl (l' := #[.val (.int p0_), .val (.int p1_), .val (.int p2_), .val (.int p3_), .val (.int p4_), .val (.int p5_), .val (.int (p0_ % (65536 : Int32))), .val (.int (p1_ &&& (65535 : Int32))), .val (.int (p2_ &&& (1048575 : Int32))), .unset, .unset, .unset, .unset, .unset, .unset, .unset, .unset, .unset, .unset, .unset, .unset]) rfl ?_
    show Steps p.tables e below (s₁.setTop (mkF m 18 #[.val (.int p0_), .val (.int p1_), .val (.int p2_), .val (.int p3_), .val (.int p4_), .val (.int p5_), .val (.int (p0_ % (65536 : Int32))), .val (.int (p1_ &&& (65535 : Int32))), .val (.int (p2_ &&& (1048575 : Int32))), .unset, .unset, .unset, .unset, .unset, .unset, .unset, .unset, .unset, .unset, .unset, .unset] [])) _
    refine XS.iloadN X0.here hx rfl (hb hby at_18) rfl ?_
    show Steps p.tables e below (s₁.setTop (mkF m 19 #[.val (.int p0_), .val (.int p1_), .val (.int p2_), .val (.int p3_), .val (.int p4_), .val (.int p5_), .val (.int (p0_ % (65536 : Int32))), .val (.int (p1_ &&& (65535 : Int32))), .val (.int (p2_ &&& (1048575 : Int32))), .unset, .unset, .unset, .unset, .unset, .unset, .unset, .unset, .unset, .unset, .unset, .unset] [(.int p3_)])) _
    refine XS.sipush X0.here hx rfl (hb hby at_19) ?_
    show Steps p.tables e below (s₁.setTop (mkF m 22 #[.val (.int p0_), .val (.int p1_), .val (.int p2_), .val (.int p3_), .val (.int p4_), .val (.int p5_), .val (.int (p0_ % (65536 : Int32))), .val (.int (p1_ &&& (65535 : Int32))), .val (.int (p2_ &&& (1048575 : Int32))), .unset, .unset, .unset, .unset, .unset, .unset, .unset, .unset, .unset, .unset, .unset, .unset] [(.int (1023 : Int32)), (.int p3_)])) _
    refine XS.iand X0.here hx rfl (hb hby at_22) rfl ?_
    show Steps p.tables e below (s₁.setTop (mkF m 23 #[.val (.int p0_), .val (.int p1_), .val (.int p2_), .val (.int p3_), .val (.int p4_), .val (.int p5_), .val (.int (p0_ % (65536 : Int32))), .val (.int (p1_ &&& (65535 : Int32))), .val (.int (p2_ &&& (1048575 : Int32))), .unset, .unset, .unset, .unset, .unset, .unset, .unset, .unset, .unset, .unset, .unset, .unset] [(.int (p3_ &&& (1023 : Int32)))])) _
    refine XS.istore X0.here hx rfl (hb hby at_23) rfl (l' := #[.val (.int p0_), .val (.int p1_), .val (.int p2_), .val (.int p3_), .val (.int p4_), .val (.int p5_), .val (.int (p0_ % (65536 : Int32))), .val (.int (p1_ &&& (65535 : Int32))), .val (.int (p2_ &&& (1048575 : Int32))), .val (.int (p3_ &&& (1023 : Int32))), .unset, .unset, .unset, .unset, .unset, .unset, .unset, .unset, .unset, .unset, .unset]) rfl ?_
    show Steps p.tables e below (s₁.setTop (mkF m 25 #[.val (.int p0_), .val (.int p1_), .val (.int p2_), .val (.int p3_), .val (.int p4_), .val (.int p5_), .val (.int (p0_ % (65536 : Int32))), .val (.int (p1_ &&& (65535 : Int32))), .val (.int (p2_ &&& (1048575 : Int32))), .val (.int (p3_ &&& (1023 : Int32))), .unset, .unset, .unset, .unset, .unset, .unset, .unset, .unset, .unset, .unset, .unset] [])) _
    refine XS.iload X0.here hx rfl (hb hby at_25) rfl ?_
    show Steps p.tables e below (s₁.setTop (mkF m 27 #[.val (.int p0_), .val (.int p1_), .val (.int p2_), .val (.int p3_), .val (.int p4_), .val (.int p5_), .val (.int (p0_ % (65536 : Int32))), .val (.int (p1_ &&& (65535 : Int32))), .val (.int (p2_ &&& (1048575 : Int32))), .val (.int (p3_ &&& (1023 : Int32))), .unset, .unset, .unset, .unset, .unset, .unset, .unset, .unset, .unset, .unset, .unset] [(.int p4_)])) _
    refine X0.ldcInt hx hown (mvT hZ (hw _ (List.mem_of_getElem? (i := 3) rfl))) (g := (mkF m 27 #[.val (.int p0_), .val (.int p1_), .val (.int p2_), .val (.int p3_), .val (.int p4_), .val (.int p5_), .val (.int (p0_ % (65536 : Int32))), .val (.int (p1_ &&& (65535 : Int32))), .val (.int (p2_ &&& (1048575 : Int32))), .val (.int (p3_ &&& (1023 : Int32))), .unset, .unset, .unset, .unset, .unset, .unset, .unset, .unset, .unset, .unset, .unset] [(.int p4_)])) rfl (hb hby at_27) _ ?_
    show Steps p.tables e below (s₁.setTop (mkF m 29 #[.val (.int p0_), .val (.int p1_), .val (.int p2_), .val (.int p3_), .val (.int p4_), .val (.int p5_), .val (.int (p0_ % (65536 : Int32))), .val (.int (p1_ &&& (65535 : Int32))), .val (.int (p2_ &&& (1048575 : Int32))), .val (.int (p3_ &&& (1023 : Int32))), .unset, .unset, .unset, .unset, .unset, .unset, .unset, .unset, .unset, .unset, .unset] [(.int (2147483647 : Int32)), (.int p4_)])) _
    refine XS.iand X0.here hx rfl (hb hby at_29) rfl ?_
    show Steps p.tables e below (s₁.setTop (mkF m 30 #[.val (.int p0_), .val (.int p1_), .val (.int p2_), .val (.int p3_), .val (.int p4_), .val (.int p5_), .val (.int (p0_ % (65536 : Int32))), .val (.int (p1_ &&& (65535 : Int32))), .val (.int (p2_ &&& (1048575 : Int32))), .val (.int (p3_ &&& (1023 : Int32))), .unset, .unset, .unset, .unset, .unset, .unset, .unset, .unset, .unset, .unset, .unset] [(.int (p4_ &&& (2147483647 : Int32)))])) _
    refine XS.bipush X0.here hx rfl (hb hby at_30) ?_
    show Steps p.tables e below (s₁.setTop (mkF m 32 #[.val (.int p0_), .val (.int p1_), .val (.int p2_), .val (.int p3_), .val (.int p4_), .val (.int p5_), .val (.int (p0_ % (65536 : Int32))), .val (.int (p1_ &&& (65535 : Int32))), .val (.int (p2_ &&& (1048575 : Int32))), .val (.int (p3_ &&& (1023 : Int32))), .unset, .unset, .unset, .unset, .unset, .unset, .unset, .unset, .unset, .unset, .unset] [(.int (9 : Int32)), (.int (p4_ &&& (2147483647 : Int32)))])) _
    refine iremM (g := (mkF m 32 #[.val (.int p0_), .val (.int p1_), .val (.int p2_), .val (.int p3_), .val (.int p4_), .val (.int p5_), .val (.int (p0_ % (65536 : Int32))), .val (.int (p1_ &&& (65535 : Int32))), .val (.int (p2_ &&& (1048575 : Int32))), .val (.int (p3_ &&& (1023 : Int32))), .unset, .unset, .unset, .unset, .unset, .unset, .unset, .unset, .unset, .unset, .unset] [(.int (9 : Int32)), (.int (p4_ &&& (2147483647 : Int32)))])) X0 hx rfl (hb hby at_32) rfl (by decide) ?_
    show Steps p.tables e below (s₁.setTop (mkF m 33 #[.val (.int p0_), .val (.int p1_), .val (.int p2_), .val (.int p3_), .val (.int p4_), .val (.int p5_), .val (.int (p0_ % (65536 : Int32))), .val (.int (p1_ &&& (65535 : Int32))), .val (.int (p2_ &&& (1048575 : Int32))), .val (.int (p3_ &&& (1023 : Int32))), .unset, .unset, .unset, .unset, .unset, .unset, .unset, .unset, .unset, .unset, .unset] [(.int ((p4_ &&& (2147483647 : Int32)) % (9 : Int32)))])) _
    refine XS.istore X0.here hx rfl (hb hby at_33) rfl (l' := #[.val (.int p0_), .val (.int p1_), .val (.int p2_), .val (.int p3_), .val (.int p4_), .val (.int p5_), .val (.int (p0_ % (65536 : Int32))), .val (.int (p1_ &&& (65535 : Int32))), .val (.int (p2_ &&& (1048575 : Int32))), .val (.int (p3_ &&& (1023 : Int32))), .val (.int ((p4_ &&& (2147483647 : Int32)) % (9 : Int32))), .unset, .unset, .unset, .unset, .unset, .unset, .unset, .unset, .unset, .unset]) rfl ?_
    show Steps p.tables e below (s₁.setTop (mkF m 35 #[.val (.int p0_), .val (.int p1_), .val (.int p2_), .val (.int p3_), .val (.int p4_), .val (.int p5_), .val (.int (p0_ % (65536 : Int32))), .val (.int (p1_ &&& (65535 : Int32))), .val (.int (p2_ &&& (1048575 : Int32))), .val (.int (p3_ &&& (1023 : Int32))), .val (.int ((p4_ &&& (2147483647 : Int32)) % (9 : Int32))), .unset, .unset, .unset, .unset, .unset, .unset, .unset, .unset, .unset, .unset] [])) _
    refine XS.iload X0.here hx rfl (hb hby at_35) rfl ?_
    show Steps p.tables e below (s₁.setTop (mkF m 37 #[.val (.int p0_), .val (.int p1_), .val (.int p2_), .val (.int p3_), .val (.int p4_), .val (.int p5_), .val (.int (p0_ % (65536 : Int32))), .val (.int (p1_ &&& (65535 : Int32))), .val (.int (p2_ &&& (1048575 : Int32))), .val (.int (p3_ &&& (1023 : Int32))), .val (.int ((p4_ &&& (2147483647 : Int32)) % (9 : Int32))), .unset, .unset, .unset, .unset, .unset, .unset, .unset, .unset, .unset, .unset] [(.int p5_)])) _
    refine XS.bipush X0.here hx rfl (hb hby at_37) ?_
    show Steps p.tables e below (s₁.setTop (mkF m 39 #[.val (.int p0_), .val (.int p1_), .val (.int p2_), .val (.int p3_), .val (.int p4_), .val (.int p5_), .val (.int (p0_ % (65536 : Int32))), .val (.int (p1_ &&& (65535 : Int32))), .val (.int (p2_ &&& (1048575 : Int32))), .val (.int (p3_ &&& (1023 : Int32))), .val (.int ((p4_ &&& (2147483647 : Int32)) % (9 : Int32))), .unset, .unset, .unset, .unset, .unset, .unset, .unset, .unset, .unset, .unset] [(.int (7 : Int32)), (.int p5_)])) _
    refine XS.iand X0.here hx rfl (hb hby at_39) rfl ?_
    show Steps p.tables e below (s₁.setTop (mkF m 40 #[.val (.int p0_), .val (.int p1_), .val (.int p2_), .val (.int p3_), .val (.int p4_), .val (.int p5_), .val (.int (p0_ % (65536 : Int32))), .val (.int (p1_ &&& (65535 : Int32))), .val (.int (p2_ &&& (1048575 : Int32))), .val (.int (p3_ &&& (1023 : Int32))), .val (.int ((p4_ &&& (2147483647 : Int32)) % (9 : Int32))), .unset, .unset, .unset, .unset, .unset, .unset, .unset, .unset, .unset, .unset] [(.int (p5_ &&& (7 : Int32)))])) _
    refine XS.istore X0.here hx rfl (hb hby at_40) rfl (l' := #[.val (.int p0_), .val (.int p1_), .val (.int p2_), .val (.int p3_), .val (.int p4_), .val (.int p5_), .val (.int (p0_ % (65536 : Int32))), .val (.int (p1_ &&& (65535 : Int32))), .val (.int (p2_ &&& (1048575 : Int32))), .val (.int (p3_ &&& (1023 : Int32))), .val (.int ((p4_ &&& (2147483647 : Int32)) % (9 : Int32))), .val (.int (p5_ &&& (7 : Int32))), .unset, .unset, .unset, .unset, .unset, .unset, .unset, .unset, .unset]) rfl ?_
    show Steps p.tables e below (s₁.setTop (mkF m 42 #[.val (.int p0_), .val (.int p1_), .val (.int p2_), .val (.int p3_), .val (.int p4_), .val (.int p5_), .val (.int (p0_ % (65536 : Int32))), .val (.int (p1_ &&& (65535 : Int32))), .val (.int (p2_ &&& (1048575 : Int32))), .val (.int (p3_ &&& (1023 : Int32))), .val (.int ((p4_ &&& (2147483647 : Int32)) % (9 : Int32))), .val (.int (p5_ &&& (7 : Int32))), .unset, .unset, .unset, .unset, .unset, .unset, .unset, .unset, .unset] [])) _
    refine XS.lconst X0.here hx rfl (hb hby at_42) ?_
    show Steps p.tables e below (s₁.setTop (mkF m 43 #[.val (.int p0_), .val (.int p1_), .val (.int p2_), .val (.int p3_), .val (.int p4_), .val (.int p5_), .val (.int (p0_ % (65536 : Int32))), .val (.int (p1_ &&& (65535 : Int32))), .val (.int (p2_ &&& (1048575 : Int32))), .val (.int (p3_ &&& (1023 : Int32))), .val (.int ((p4_ &&& (2147483647 : Int32)) % (9 : Int32))), .val (.int (p5_ &&& (7 : Int32))), .unset, .unset, .unset, .unset, .unset, .unset, .unset, .unset, .unset] [(.long (1 : Int64))])) _
    refine XS.iload X0.here hx rfl (hb hby at_43) rfl ?_
    show Steps p.tables e below (s₁.setTop (mkF m 45 #[.val (.int p0_), .val (.int p1_), .val (.int p2_), .val (.int p3_), .val (.int p4_), .val (.int p5_), .val (.int (p0_ % (65536 : Int32))), .val (.int (p1_ &&& (65535 : Int32))), .val (.int (p2_ &&& (1048575 : Int32))), .val (.int (p3_ &&& (1023 : Int32))), .val (.int ((p4_ &&& (2147483647 : Int32)) % (9 : Int32))), .val (.int (p5_ &&& (7 : Int32))), .unset, .unset, .unset, .unset, .unset, .unset, .unset, .unset, .unset] [(.int (p5_ &&& (7 : Int32))), (.long (1 : Int64))])) _
    refine XS.lshl X0.here hx rfl (hb hby at_45) rfl ?_
    show Steps p.tables e below (s₁.setTop (mkF m 46 #[.val (.int p0_), .val (.int p1_), .val (.int p2_), .val (.int p3_), .val (.int p4_), .val (.int p5_), .val (.int (p0_ % (65536 : Int32))), .val (.int (p1_ &&& (65535 : Int32))), .val (.int (p2_ &&& (1048575 : Int32))), .val (.int (p3_ &&& (1023 : Int32))), .val (.int ((p4_ &&& (2147483647 : Int32)) % (9 : Int32))), .val (.int (p5_ &&& (7 : Int32))), .unset, .unset, .unset, .unset, .unset, .unset, .unset, .unset, .unset] [(.long ((1 : Int64) <<< ((p5_ &&& (7 : Int32)) &&& 0x3f).toInt64))])) _
    refine XS.lstore X0.here hx rfl (hb hby at_46) rfl (l' := #[.val (.int p0_), .val (.int p1_), .val (.int p2_), .val (.int p3_), .val (.int p4_), .val (.int p5_), .val (.int (p0_ % (65536 : Int32))), .val (.int (p1_ &&& (65535 : Int32))), .val (.int (p2_ &&& (1048575 : Int32))), .val (.int (p3_ &&& (1023 : Int32))), .val (.int ((p4_ &&& (2147483647 : Int32)) % (9 : Int32))), .val (.int (p5_ &&& (7 : Int32))), .val (.long ((1 : Int64) <<< ((p5_ &&& (7 : Int32)) &&& 0x3f).toInt64)), .second, .unset, .unset, .unset, .unset, .unset, .unset, .unset]) rfl ?_
    show Steps p.tables e below (s₁.setTop (mkF m 48 #[.val (.int p0_), .val (.int p1_), .val (.int p2_), .val (.int p3_), .val (.int p4_), .val (.int p5_), .val (.int (p0_ % (65536 : Int32))), .val (.int (p1_ &&& (65535 : Int32))), .val (.int (p2_ &&& (1048575 : Int32))), .val (.int (p3_ &&& (1023 : Int32))), .val (.int ((p4_ &&& (2147483647 : Int32)) % (9 : Int32))), .val (.int (p5_ &&& (7 : Int32))), .val (.long ((1 : Int64) <<< ((p5_ &&& (7 : Int32)) &&& 0x3f).toInt64)), .second, .unset, .unset, .unset, .unset, .unset, .unset, .unset] [])) _
    refine XS.iload X0.here hx rfl (hb hby at_48) rfl ?_
    show Steps p.tables e below (s₁.setTop (mkF m 50 #[.val (.int p0_), .val (.int p1_), .val (.int p2_), .val (.int p3_), .val (.int p4_), .val (.int p5_), .val (.int (p0_ % (65536 : Int32))), .val (.int (p1_ &&& (65535 : Int32))), .val (.int (p2_ &&& (1048575 : Int32))), .val (.int (p3_ &&& (1023 : Int32))), .val (.int ((p4_ &&& (2147483647 : Int32)) % (9 : Int32))), .val (.int (p5_ &&& (7 : Int32))), .val (.long ((1 : Int64) <<< ((p5_ &&& (7 : Int32)) &&& 0x3f).toInt64)), .second, .unset, .unset, .unset, .unset, .unset, .unset, .unset] [(.int (p1_ &&& (65535 : Int32)))])) _
    refine XS.i2l X0.here hx rfl (hb hby at_50) rfl ?_
    show Steps p.tables e below (s₁.setTop (mkF m 51 #[.val (.int p0_), .val (.int p1_), .val (.int p2_), .val (.int p3_), .val (.int p4_), .val (.int p5_), .val (.int (p0_ % (65536 : Int32))), .val (.int (p1_ &&& (65535 : Int32))), .val (.int (p2_ &&& (1048575 : Int32))), .val (.int (p3_ &&& (1023 : Int32))), .val (.int ((p4_ &&& (2147483647 : Int32)) % (9 : Int32))), .val (.int (p5_ &&& (7 : Int32))), .val (.long ((1 : Int64) <<< ((p5_ &&& (7 : Int32)) &&& 0x3f).toInt64)), .second, .unset, .unset, .unset, .unset, .unset, .unset, .unset] [(.long ((p1_ &&& (65535 : Int32)).toInt64))])) _
    refine X0.ldc2Long hx hown (mvT hZ (hw _ (List.mem_of_getElem? (i := 4) rfl))) (g := (mkF m 51 #[.val (.int p0_), .val (.int p1_), .val (.int p2_), .val (.int p3_), .val (.int p4_), .val (.int p5_), .val (.int (p0_ % (65536 : Int32))), .val (.int (p1_ &&& (65535 : Int32))), .val (.int (p2_ &&& (1048575 : Int32))), .val (.int (p3_ &&& (1023 : Int32))), .val (.int ((p4_ &&& (2147483647 : Int32)) % (9 : Int32))), .val (.int (p5_ &&& (7 : Int32))), .val (.long ((1 : Int64) <<< ((p5_ &&& (7 : Int32)) &&& 0x3f).toInt64)), .second, .unset, .unset, .unset, .unset, .unset, .unset, .unset] [(.long ((p1_ &&& (65535 : Int32)).toInt64))])) rfl (hb hby at_51) _ ?_
    show Steps p.tables e below (s₁.setTop (mkF m 54 #[.val (.int p0_), .val (.int p1_), .val (.int p2_), .val (.int p3_), .val (.int p4_), .val (.int p5_), .val (.int (p0_ % (65536 : Int32))), .val (.int (p1_ &&& (65535 : Int32))), .val (.int (p2_ &&& (1048575 : Int32))), .val (.int (p3_ &&& (1023 : Int32))), .val (.int ((p4_ &&& (2147483647 : Int32)) % (9 : Int32))), .val (.int (p5_ &&& (7 : Int32))), .val (.long ((1 : Int64) <<< ((p5_ &&& (7 : Int32)) &&& 0x3f).toInt64)), .second, .unset, .unset, .unset, .unset, .unset, .unset, .unset] [(.long (32 : Int64)), (.long ((p1_ &&& (65535 : Int32)).toInt64))])) _
    refine XS.lmul X0.here hx rfl (hb hby at_54) rfl ?_
    show Steps p.tables e below (s₁.setTop (mkF m 55 #[.val (.int p0_), .val (.int p1_), .val (.int p2_), .val (.int p3_), .val (.int p4_), .val (.int p5_), .val (.int (p0_ % (65536 : Int32))), .val (.int (p1_ &&& (65535 : Int32))), .val (.int (p2_ &&& (1048575 : Int32))), .val (.int (p3_ &&& (1023 : Int32))), .val (.int ((p4_ &&& (2147483647 : Int32)) % (9 : Int32))), .val (.int (p5_ &&& (7 : Int32))), .val (.long ((1 : Int64) <<< ((p5_ &&& (7 : Int32)) &&& 0x3f).toInt64)), .second, .unset, .unset, .unset, .unset, .unset, .unset, .unset] [(.long (((p1_ &&& (65535 : Int32)).toInt64) * (32 : Int64)))])) _
    refine XS.lload X0.here hx rfl (hb hby at_55) rfl ?_
    show Steps p.tables e below (s₁.setTop (mkF m 57 #[.val (.int p0_), .val (.int p1_), .val (.int p2_), .val (.int p3_), .val (.int p4_), .val (.int p5_), .val (.int (p0_ % (65536 : Int32))), .val (.int (p1_ &&& (65535 : Int32))), .val (.int (p2_ &&& (1048575 : Int32))), .val (.int (p3_ &&& (1023 : Int32))), .val (.int ((p4_ &&& (2147483647 : Int32)) % (9 : Int32))), .val (.int (p5_ &&& (7 : Int32))), .val (.long ((1 : Int64) <<< ((p5_ &&& (7 : Int32)) &&& 0x3f).toInt64)), .second, .unset, .unset, .unset, .unset, .unset, .unset, .unset] [(.long ((1 : Int64) <<< ((p5_ &&& (7 : Int32)) &&& 0x3f).toInt64)), (.long (((p1_ &&& (65535 : Int32)).toInt64) * (32 : Int64)))])) _
    refine XS.lmul X0.here hx rfl (hb hby at_57) rfl ?_
    show Steps p.tables e below (s₁.setTop (mkF m 58 #[.val (.int p0_), .val (.int p1_), .val (.int p2_), .val (.int p3_), .val (.int p4_), .val (.int p5_), .val (.int (p0_ % (65536 : Int32))), .val (.int (p1_ &&& (65535 : Int32))), .val (.int (p2_ &&& (1048575 : Int32))), .val (.int (p3_ &&& (1023 : Int32))), .val (.int ((p4_ &&& (2147483647 : Int32)) % (9 : Int32))), .val (.int (p5_ &&& (7 : Int32))), .val (.long ((1 : Int64) <<< ((p5_ &&& (7 : Int32)) &&& 0x3f).toInt64)), .second, .unset, .unset, .unset, .unset, .unset, .unset, .unset] [(.long ((((p1_ &&& (65535 : Int32)).toInt64) * (32 : Int64)) * ((1 : Int64) <<< ((p5_ &&& (7 : Int32)) &&& 0x3f).toInt64)))])) _
    refine XS.iload X0.here hx rfl (hb hby at_58) rfl ?_
    show Steps p.tables e below (s₁.setTop (mkF m 60 #[.val (.int p0_), .val (.int p1_), .val (.int p2_), .val (.int p3_), .val (.int p4_), .val (.int p5_), .val (.int (p0_ % (65536 : Int32))), .val (.int (p1_ &&& (65535 : Int32))), .val (.int (p2_ &&& (1048575 : Int32))), .val (.int (p3_ &&& (1023 : Int32))), .val (.int ((p4_ &&& (2147483647 : Int32)) % (9 : Int32))), .val (.int (p5_ &&& (7 : Int32))), .val (.long ((1 : Int64) <<< ((p5_ &&& (7 : Int32)) &&& 0x3f).toInt64)), .second, .unset, .unset, .unset, .unset, .unset, .unset, .unset] [(.int (p3_ &&& (1023 : Int32))), (.long ((((p1_ &&& (65535 : Int32)).toInt64) * (32 : Int64)) * ((1 : Int64) <<< ((p5_ &&& (7 : Int32)) &&& 0x3f).toInt64)))])) _
    refine XS.i2l X0.here hx rfl (hb hby at_60) rfl ?_
    show Steps p.tables e below (s₁.setTop (mkF m 61 #[.val (.int p0_), .val (.int p1_), .val (.int p2_), .val (.int p3_), .val (.int p4_), .val (.int p5_), .val (.int (p0_ % (65536 : Int32))), .val (.int (p1_ &&& (65535 : Int32))), .val (.int (p2_ &&& (1048575 : Int32))), .val (.int (p3_ &&& (1023 : Int32))), .val (.int ((p4_ &&& (2147483647 : Int32)) % (9 : Int32))), .val (.int (p5_ &&& (7 : Int32))), .val (.long ((1 : Int64) <<< ((p5_ &&& (7 : Int32)) &&& 0x3f).toInt64)), .second, .unset, .unset, .unset, .unset, .unset, .unset, .unset] [(.long ((p3_ &&& (1023 : Int32)).toInt64)), (.long ((((p1_ &&& (65535 : Int32)).toInt64) * (32 : Int64)) * ((1 : Int64) <<< ((p5_ &&& (7 : Int32)) &&& 0x3f).toInt64)))])) _
    refine XS.bipush X0.here hx rfl (hb hby at_61) ?_
    show Steps p.tables e below (s₁.setTop (mkF m 63 #[.val (.int p0_), .val (.int p1_), .val (.int p2_), .val (.int p3_), .val (.int p4_), .val (.int p5_), .val (.int (p0_ % (65536 : Int32))), .val (.int (p1_ &&& (65535 : Int32))), .val (.int (p2_ &&& (1048575 : Int32))), .val (.int (p3_ &&& (1023 : Int32))), .val (.int ((p4_ &&& (2147483647 : Int32)) % (9 : Int32))), .val (.int (p5_ &&& (7 : Int32))), .val (.long ((1 : Int64) <<< ((p5_ &&& (7 : Int32)) &&& 0x3f).toInt64)), .second, .unset, .unset, .unset, .unset, .unset, .unset, .unset] [(.int (8 : Int32)), (.long ((p3_ &&& (1023 : Int32)).toInt64)), (.long ((((p1_ &&& (65535 : Int32)).toInt64) * (32 : Int64)) * ((1 : Int64) <<< ((p5_ &&& (7 : Int32)) &&& 0x3f).toInt64)))])) _
    refine XS.iload X0.here hx rfl (hb hby at_63) rfl ?_
    show Steps p.tables e below (s₁.setTop (mkF m 65 #[.val (.int p0_), .val (.int p1_), .val (.int p2_), .val (.int p3_), .val (.int p4_), .val (.int p5_), .val (.int (p0_ % (65536 : Int32))), .val (.int (p1_ &&& (65535 : Int32))), .val (.int (p2_ &&& (1048575 : Int32))), .val (.int (p3_ &&& (1023 : Int32))), .val (.int ((p4_ &&& (2147483647 : Int32)) % (9 : Int32))), .val (.int (p5_ &&& (7 : Int32))), .val (.long ((1 : Int64) <<< ((p5_ &&& (7 : Int32)) &&& 0x3f).toInt64)), .second, .unset, .unset, .unset, .unset, .unset, .unset, .unset] [(.int ((p4_ &&& (2147483647 : Int32)) % (9 : Int32))), (.int (8 : Int32)), (.long ((p3_ &&& (1023 : Int32)).toInt64)), (.long ((((p1_ &&& (65535 : Int32)).toInt64) * (32 : Int64)) * ((1 : Int64) <<< ((p5_ &&& (7 : Int32)) &&& 0x3f).toInt64)))])) _
    refine XS.isub X0.here hx rfl (hb hby at_65) rfl ?_
    show Steps p.tables e below (s₁.setTop (mkF m 66 #[.val (.int p0_), .val (.int p1_), .val (.int p2_), .val (.int p3_), .val (.int p4_), .val (.int p5_), .val (.int (p0_ % (65536 : Int32))), .val (.int (p1_ &&& (65535 : Int32))), .val (.int (p2_ &&& (1048575 : Int32))), .val (.int (p3_ &&& (1023 : Int32))), .val (.int ((p4_ &&& (2147483647 : Int32)) % (9 : Int32))), .val (.int (p5_ &&& (7 : Int32))), .val (.long ((1 : Int64) <<< ((p5_ &&& (7 : Int32)) &&& 0x3f).toInt64)), .second, .unset, .unset, .unset, .unset, .unset, .unset, .unset] [(.int ((8 : Int32) - ((p4_ &&& (2147483647 : Int32)) % (9 : Int32)))), (.long ((p3_ &&& (1023 : Int32)).toInt64)), (.long ((((p1_ &&& (65535 : Int32)).toInt64) * (32 : Int64)) * ((1 : Int64) <<< ((p5_ &&& (7 : Int32)) &&& 0x3f).toInt64)))])) _
    refine XS.i2l X0.here hx rfl (hb hby at_66) rfl ?_
    show Steps p.tables e below (s₁.setTop (mkF m 67 #[.val (.int p0_), .val (.int p1_), .val (.int p2_), .val (.int p3_), .val (.int p4_), .val (.int p5_), .val (.int (p0_ % (65536 : Int32))), .val (.int (p1_ &&& (65535 : Int32))), .val (.int (p2_ &&& (1048575 : Int32))), .val (.int (p3_ &&& (1023 : Int32))), .val (.int ((p4_ &&& (2147483647 : Int32)) % (9 : Int32))), .val (.int (p5_ &&& (7 : Int32))), .val (.long ((1 : Int64) <<< ((p5_ &&& (7 : Int32)) &&& 0x3f).toInt64)), .second, .unset, .unset, .unset, .unset, .unset, .unset, .unset] [(.long (((8 : Int32) - ((p4_ &&& (2147483647 : Int32)) % (9 : Int32))).toInt64)), (.long ((p3_ &&& (1023 : Int32)).toInt64)), (.long ((((p1_ &&& (65535 : Int32)).toInt64) * (32 : Int64)) * ((1 : Int64) <<< ((p5_ &&& (7 : Int32)) &&& 0x3f).toInt64)))])) _
    refine XS.lload X0.here hx rfl (hb hby at_67) rfl ?_
    show Steps p.tables e below (s₁.setTop (mkF m 69 #[.val (.int p0_), .val (.int p1_), .val (.int p2_), .val (.int p3_), .val (.int p4_), .val (.int p5_), .val (.int (p0_ % (65536 : Int32))), .val (.int (p1_ &&& (65535 : Int32))), .val (.int (p2_ &&& (1048575 : Int32))), .val (.int (p3_ &&& (1023 : Int32))), .val (.int ((p4_ &&& (2147483647 : Int32)) % (9 : Int32))), .val (.int (p5_ &&& (7 : Int32))), .val (.long ((1 : Int64) <<< ((p5_ &&& (7 : Int32)) &&& 0x3f).toInt64)), .second, .unset, .unset, .unset, .unset, .unset, .unset, .unset] [(.long ((1 : Int64) <<< ((p5_ &&& (7 : Int32)) &&& 0x3f).toInt64)), (.long (((8 : Int32) - ((p4_ &&& (2147483647 : Int32)) % (9 : Int32))).toInt64)), (.long ((p3_ &&& (1023 : Int32)).toInt64)), (.long ((((p1_ &&& (65535 : Int32)).toInt64) * (32 : Int64)) * ((1 : Int64) <<< ((p5_ &&& (7 : Int32)) &&& 0x3f).toInt64)))])) _
    refine XS.lmul X0.here hx rfl (hb hby at_69) rfl ?_
    show Steps p.tables e below (s₁.setTop (mkF m 70 #[.val (.int p0_), .val (.int p1_), .val (.int p2_), .val (.int p3_), .val (.int p4_), .val (.int p5_), .val (.int (p0_ % (65536 : Int32))), .val (.int (p1_ &&& (65535 : Int32))), .val (.int (p2_ &&& (1048575 : Int32))), .val (.int (p3_ &&& (1023 : Int32))), .val (.int ((p4_ &&& (2147483647 : Int32)) % (9 : Int32))), .val (.int (p5_ &&& (7 : Int32))), .val (.long ((1 : Int64) <<< ((p5_ &&& (7 : Int32)) &&& 0x3f).toInt64)), .second, .unset, .unset, .unset, .unset, .unset, .unset, .unset] [(.long ((((8 : Int32) - ((p4_ &&& (2147483647 : Int32)) % (9 : Int32))).toInt64) * ((1 : Int64) <<< ((p5_ &&& (7 : Int32)) &&& 0x3f).toInt64))), (.long ((p3_ &&& (1023 : Int32)).toInt64)), (.long ((((p1_ &&& (65535 : Int32)).toInt64) * (32 : Int64)) * ((1 : Int64) <<< ((p5_ &&& (7 : Int32)) &&& 0x3f).toInt64)))])) _
    refine XS.iload X0.here hx rfl (hb hby at_70) rfl ?_
    show Steps p.tables e below (s₁.setTop (mkF m 72 #[.val (.int p0_), .val (.int p1_), .val (.int p2_), .val (.int p3_), .val (.int p4_), .val (.int p5_), .val (.int (p0_ % (65536 : Int32))), .val (.int (p1_ &&& (65535 : Int32))), .val (.int (p2_ &&& (1048575 : Int32))), .val (.int (p3_ &&& (1023 : Int32))), .val (.int ((p4_ &&& (2147483647 : Int32)) % (9 : Int32))), .val (.int (p5_ &&& (7 : Int32))), .val (.long ((1 : Int64) <<< ((p5_ &&& (7 : Int32)) &&& 0x3f).toInt64)), .second, .unset, .unset, .unset, .unset, .unset, .unset, .unset] [(.int ((p4_ &&& (2147483647 : Int32)) % (9 : Int32))), (.long ((((8 : Int32) - ((p4_ &&& (2147483647 : Int32)) % (9 : Int32))).toInt64) * ((1 : Int64) <<< ((p5_ &&& (7 : Int32)) &&& 0x3f).toInt64))), (.long ((p3_ &&& (1023 : Int32)).toInt64)), (.long ((((p1_ &&& (65535 : Int32)).toInt64) * (32 : Int64)) * ((1 : Int64) <<< ((p5_ &&& (7 : Int32)) &&& 0x3f).toInt64)))])) _
    refine XS.i2l X0.here hx rfl (hb hby at_72) rfl ?_
    show Steps p.tables e below (s₁.setTop (mkF m 73 #[.val (.int p0_), .val (.int p1_), .val (.int p2_), .val (.int p3_), .val (.int p4_), .val (.int p5_), .val (.int (p0_ % (65536 : Int32))), .val (.int (p1_ &&& (65535 : Int32))), .val (.int (p2_ &&& (1048575 : Int32))), .val (.int (p3_ &&& (1023 : Int32))), .val (.int ((p4_ &&& (2147483647 : Int32)) % (9 : Int32))), .val (.int (p5_ &&& (7 : Int32))), .val (.long ((1 : Int64) <<< ((p5_ &&& (7 : Int32)) &&& 0x3f).toInt64)), .second, .unset, .unset, .unset, .unset, .unset, .unset, .unset] [(.long (((p4_ &&& (2147483647 : Int32)) % (9 : Int32)).toInt64)), (.long ((((8 : Int32) - ((p4_ &&& (2147483647 : Int32)) % (9 : Int32))).toInt64) * ((1 : Int64) <<< ((p5_ &&& (7 : Int32)) &&& 0x3f).toInt64))), (.long ((p3_ &&& (1023 : Int32)).toInt64)), (.long ((((p1_ &&& (65535 : Int32)).toInt64) * (32 : Int64)) * ((1 : Int64) <<< ((p5_ &&& (7 : Int32)) &&& 0x3f).toInt64)))])) _
    refine XS.iload X0.here hx rfl (hb hby at_73) rfl ?_
    show Steps p.tables e below (s₁.setTop (mkF m 75 #[.val (.int p0_), .val (.int p1_), .val (.int p2_), .val (.int p3_), .val (.int p4_), .val (.int p5_), .val (.int (p0_ % (65536 : Int32))), .val (.int (p1_ &&& (65535 : Int32))), .val (.int (p2_ &&& (1048575 : Int32))), .val (.int (p3_ &&& (1023 : Int32))), .val (.int ((p4_ &&& (2147483647 : Int32)) % (9 : Int32))), .val (.int (p5_ &&& (7 : Int32))), .val (.long ((1 : Int64) <<< ((p5_ &&& (7 : Int32)) &&& 0x3f).toInt64)), .second, .unset, .unset, .unset, .unset, .unset, .unset, .unset] [(.int (p2_ &&& (1048575 : Int32))), (.long (((p4_ &&& (2147483647 : Int32)) % (9 : Int32)).toInt64)), (.long ((((8 : Int32) - ((p4_ &&& (2147483647 : Int32)) % (9 : Int32))).toInt64) * ((1 : Int64) <<< ((p5_ &&& (7 : Int32)) &&& 0x3f).toInt64))), (.long ((p3_ &&& (1023 : Int32)).toInt64)), (.long ((((p1_ &&& (65535 : Int32)).toInt64) * (32 : Int64)) * ((1 : Int64) <<< ((p5_ &&& (7 : Int32)) &&& 0x3f).toInt64)))])) _
    refine XS.i2l X0.here hx rfl (hb hby at_75) rfl ?_
    show Steps p.tables e below (s₁.setTop (mkF m 76 #[.val (.int p0_), .val (.int p1_), .val (.int p2_), .val (.int p3_), .val (.int p4_), .val (.int p5_), .val (.int (p0_ % (65536 : Int32))), .val (.int (p1_ &&& (65535 : Int32))), .val (.int (p2_ &&& (1048575 : Int32))), .val (.int (p3_ &&& (1023 : Int32))), .val (.int ((p4_ &&& (2147483647 : Int32)) % (9 : Int32))), .val (.int (p5_ &&& (7 : Int32))), .val (.long ((1 : Int64) <<< ((p5_ &&& (7 : Int32)) &&& 0x3f).toInt64)), .second, .unset, .unset, .unset, .unset, .unset, .unset, .unset] [(.long ((p2_ &&& (1048575 : Int32)).toInt64)), (.long (((p4_ &&& (2147483647 : Int32)) % (9 : Int32)).toInt64)), (.long ((((8 : Int32) - ((p4_ &&& (2147483647 : Int32)) % (9 : Int32))).toInt64) * ((1 : Int64) <<< ((p5_ &&& (7 : Int32)) &&& 0x3f).toInt64))), (.long ((p3_ &&& (1023 : Int32)).toInt64)), (.long ((((p1_ &&& (65535 : Int32)).toInt64) * (32 : Int64)) * ((1 : Int64) <<< ((p5_ &&& (7 : Int32)) &&& 0x3f).toInt64)))])) _
    refine XS.lmul X0.here hx rfl (hb hby at_76) rfl ?_
    show Steps p.tables e below (s₁.setTop (mkF m 77 #[.val (.int p0_), .val (.int p1_), .val (.int p2_), .val (.int p3_), .val (.int p4_), .val (.int p5_), .val (.int (p0_ % (65536 : Int32))), .val (.int (p1_ &&& (65535 : Int32))), .val (.int (p2_ &&& (1048575 : Int32))), .val (.int (p3_ &&& (1023 : Int32))), .val (.int ((p4_ &&& (2147483647 : Int32)) % (9 : Int32))), .val (.int (p5_ &&& (7 : Int32))), .val (.long ((1 : Int64) <<< ((p5_ &&& (7 : Int32)) &&& 0x3f).toInt64)), .second, .unset, .unset, .unset, .unset, .unset, .unset, .unset] [(.long ((((p4_ &&& (2147483647 : Int32)) % (9 : Int32)).toInt64) * ((p2_ &&& (1048575 : Int32)).toInt64))), (.long ((((8 : Int32) - ((p4_ &&& (2147483647 : Int32)) % (9 : Int32))).toInt64) * ((1 : Int64) <<< ((p5_ &&& (7 : Int32)) &&& 0x3f).toInt64))), (.long ((p3_ &&& (1023 : Int32)).toInt64)), (.long ((((p1_ &&& (65535 : Int32)).toInt64) * (32 : Int64)) * ((1 : Int64) <<< ((p5_ &&& (7 : Int32)) &&& 0x3f).toInt64)))])) _
    refine XS.ladd X0.here hx rfl (hb hby at_77) rfl ?_
    show Steps p.tables e below (s₁.setTop (mkF m 78 #[.val (.int p0_), .val (.int p1_), .val (.int p2_), .val (.int p3_), .val (.int p4_), .val (.int p5_), .val (.int (p0_ % (65536 : Int32))), .val (.int (p1_ &&& (65535 : Int32))), .val (.int (p2_ &&& (1048575 : Int32))), .val (.int (p3_ &&& (1023 : Int32))), .val (.int ((p4_ &&& (2147483647 : Int32)) % (9 : Int32))), .val (.int (p5_ &&& (7 : Int32))), .val (.long ((1 : Int64) <<< ((p5_ &&& (7 : Int32)) &&& 0x3f).toInt64)), .second, .unset, .unset, .unset, .unset, .unset, .unset, .unset] [(.long (((((8 : Int32) - ((p4_ &&& (2147483647 : Int32)) % (9 : Int32))).toInt64) * ((1 : Int64) <<< ((p5_ &&& (7 : Int32)) &&& 0x3f).toInt64)) + ((((p4_ &&& (2147483647 : Int32)) % (9 : Int32)).toInt64) * ((p2_ &&& (1048575 : Int32)).toInt64)))), (.long ((p3_ &&& (1023 : Int32)).toInt64)), (.long ((((p1_ &&& (65535 : Int32)).toInt64) * (32 : Int64)) * ((1 : Int64) <<< ((p5_ &&& (7 : Int32)) &&& 0x3f).toInt64)))])) _
    refine XS.lmul X0.here hx rfl (hb hby at_78) rfl ?_
    show Steps p.tables e below (s₁.setTop (mkF m 79 #[.val (.int p0_), .val (.int p1_), .val (.int p2_), .val (.int p3_), .val (.int p4_), .val (.int p5_), .val (.int (p0_ % (65536 : Int32))), .val (.int (p1_ &&& (65535 : Int32))), .val (.int (p2_ &&& (1048575 : Int32))), .val (.int (p3_ &&& (1023 : Int32))), .val (.int ((p4_ &&& (2147483647 : Int32)) % (9 : Int32))), .val (.int (p5_ &&& (7 : Int32))), .val (.long ((1 : Int64) <<< ((p5_ &&& (7 : Int32)) &&& 0x3f).toInt64)), .second, .unset, .unset, .unset, .unset, .unset, .unset, .unset] [(.long (((p3_ &&& (1023 : Int32)).toInt64) * (((((8 : Int32) - ((p4_ &&& (2147483647 : Int32)) % (9 : Int32))).toInt64) * ((1 : Int64) <<< ((p5_ &&& (7 : Int32)) &&& 0x3f).toInt64)) + ((((p4_ &&& (2147483647 : Int32)) % (9 : Int32)).toInt64) * ((p2_ &&& (1048575 : Int32)).toInt64))))), (.long ((((p1_ &&& (65535 : Int32)).toInt64) * (32 : Int64)) * ((1 : Int64) <<< ((p5_ &&& (7 : Int32)) &&& 0x3f).toInt64)))])) _
    refine XS.ladd X0.here hx rfl (hb hby at_79) rfl ?_
    show Steps p.tables e below (s₁.setTop (mkF m 80 #[.val (.int p0_), .val (.int p1_), .val (.int p2_), .val (.int p3_), .val (.int p4_), .val (.int p5_), .val (.int (p0_ % (65536 : Int32))), .val (.int (p1_ &&& (65535 : Int32))), .val (.int (p2_ &&& (1048575 : Int32))), .val (.int (p3_ &&& (1023 : Int32))), .val (.int ((p4_ &&& (2147483647 : Int32)) % (9 : Int32))), .val (.int (p5_ &&& (7 : Int32))), .val (.long ((1 : Int64) <<< ((p5_ &&& (7 : Int32)) &&& 0x3f).toInt64)), .second, .unset, .unset, .unset, .unset, .unset, .unset, .unset] [(.long (((((p1_ &&& (65535 : Int32)).toInt64) * (32 : Int64)) * ((1 : Int64) <<< ((p5_ &&& (7 : Int32)) &&& 0x3f).toInt64)) + (((p3_ &&& (1023 : Int32)).toInt64) * (((((8 : Int32) - ((p4_ &&& (2147483647 : Int32)) % (9 : Int32))).toInt64) * ((1 : Int64) <<< ((p5_ &&& (7 : Int32)) &&& 0x3f).toInt64)) + ((((p4_ &&& (2147483647 : Int32)) % (9 : Int32)).toInt64) * ((p2_ &&& (1048575 : Int32)).toInt64))))))])) _
    refine XS.lstore X0.here hx rfl (hb hby at_80) rfl (l' := #[.val (.int p0_), .val (.int p1_), .val (.int p2_), .val (.int p3_), .val (.int p4_), .val (.int p5_), .val (.int (p0_ % (65536 : Int32))), .val (.int (p1_ &&& (65535 : Int32))), .val (.int (p2_ &&& (1048575 : Int32))), .val (.int (p3_ &&& (1023 : Int32))), .val (.int ((p4_ &&& (2147483647 : Int32)) % (9 : Int32))), .val (.int (p5_ &&& (7 : Int32))), .val (.long ((1 : Int64) <<< ((p5_ &&& (7 : Int32)) &&& 0x3f).toInt64)), .second, .val (.long (((((p1_ &&& (65535 : Int32)).toInt64) * (32 : Int64)) * ((1 : Int64) <<< ((p5_ &&& (7 : Int32)) &&& 0x3f).toInt64)) + (((p3_ &&& (1023 : Int32)).toInt64) * (((((8 : Int32) - ((p4_ &&& (2147483647 : Int32)) % (9 : Int32))).toInt64) * ((1 : Int64) <<< ((p5_ &&& (7 : Int32)) &&& 0x3f).toInt64)) + ((((p4_ &&& (2147483647 : Int32)) % (9 : Int32)).toInt64) * ((p2_ &&& (1048575 : Int32)).toInt64)))))), .second, .unset, .unset, .unset, .unset, .unset]) rfl ?_
    show Steps p.tables e below (s₁.setTop (mkF m 82 #[.val (.int p0_), .val (.int p1_), .val (.int p2_), .val (.int p3_), .val (.int p4_), .val (.int p5_), .val (.int (p0_ % (65536 : Int32))), .val (.int (p1_ &&& (65535 : Int32))), .val (.int (p2_ &&& (1048575 : Int32))), .val (.int (p3_ &&& (1023 : Int32))), .val (.int ((p4_ &&& (2147483647 : Int32)) % (9 : Int32))), .val (.int (p5_ &&& (7 : Int32))), .val (.long ((1 : Int64) <<< ((p5_ &&& (7 : Int32)) &&& 0x3f).toInt64)), .second, .val (.long (((((p1_ &&& (65535 : Int32)).toInt64) * (32 : Int64)) * ((1 : Int64) <<< ((p5_ &&& (7 : Int32)) &&& 0x3f).toInt64)) + (((p3_ &&& (1023 : Int32)).toInt64) * (((((8 : Int32) - ((p4_ &&& (2147483647 : Int32)) % (9 : Int32))).toInt64) * ((1 : Int64) <<< ((p5_ &&& (7 : Int32)) &&& 0x3f).toInt64)) + ((((p4_ &&& (2147483647 : Int32)) % (9 : Int32)).toInt64) * ((p2_ &&& (1048575 : Int32)).toInt64)))))), .second, .unset, .unset, .unset, .unset, .unset] [])) _
    refine XS.lload X0.here hx rfl (hb hby at_82) rfl ?_
    show Steps p.tables e below (s₁.setTop (mkF m 84 #[.val (.int p0_), .val (.int p1_), .val (.int p2_), .val (.int p3_), .val (.int p4_), .val (.int p5_), .val (.int (p0_ % (65536 : Int32))), .val (.int (p1_ &&& (65535 : Int32))), .val (.int (p2_ &&& (1048575 : Int32))), .val (.int (p3_ &&& (1023 : Int32))), .val (.int ((p4_ &&& (2147483647 : Int32)) % (9 : Int32))), .val (.int (p5_ &&& (7 : Int32))), .val (.long ((1 : Int64) <<< ((p5_ &&& (7 : Int32)) &&& 0x3f).toInt64)), .second, .val (.long (((((p1_ &&& (65535 : Int32)).toInt64) * (32 : Int64)) * ((1 : Int64) <<< ((p5_ &&& (7 : Int32)) &&& 0x3f).toInt64)) + (((p3_ &&& (1023 : Int32)).toInt64) * (((((8 : Int32) - ((p4_ &&& (2147483647 : Int32)) % (9 : Int32))).toInt64) * ((1 : Int64) <<< ((p5_ &&& (7 : Int32)) &&& 0x3f).toInt64)) + ((((p4_ &&& (2147483647 : Int32)) % (9 : Int32)).toInt64) * ((p2_ &&& (1048575 : Int32)).toInt64)))))), .second, .unset, .unset, .unset, .unset, .unset] [(.long (((((p1_ &&& (65535 : Int32)).toInt64) * (32 : Int64)) * ((1 : Int64) <<< ((p5_ &&& (7 : Int32)) &&& 0x3f).toInt64)) + (((p3_ &&& (1023 : Int32)).toInt64) * (((((8 : Int32) - ((p4_ &&& (2147483647 : Int32)) % (9 : Int32))).toInt64) * ((1 : Int64) <<< ((p5_ &&& (7 : Int32)) &&& 0x3f).toInt64)) + ((((p4_ &&& (2147483647 : Int32)) % (9 : Int32)).toInt64) * ((p2_ &&& (1048575 : Int32)).toInt64))))))])) _
    refine XS.lconst X0.here hx rfl (hb hby at_84) ?_
    show Steps p.tables e below (s₁.setTop (mkF m 85 #[.val (.int p0_), .val (.int p1_), .val (.int p2_), .val (.int p3_), .val (.int p4_), .val (.int p5_), .val (.int (p0_ % (65536 : Int32))), .val (.int (p1_ &&& (65535 : Int32))), .val (.int (p2_ &&& (1048575 : Int32))), .val (.int (p3_ &&& (1023 : Int32))), .val (.int ((p4_ &&& (2147483647 : Int32)) % (9 : Int32))), .val (.int (p5_ &&& (7 : Int32))), .val (.long ((1 : Int64) <<< ((p5_ &&& (7 : Int32)) &&& 0x3f).toInt64)), .second, .val (.long (((((p1_ &&& (65535 : Int32)).toInt64) * (32 : Int64)) * ((1 : Int64) <<< ((p5_ &&& (7 : Int32)) &&& 0x3f).toInt64)) + (((p3_ &&& (1023 : Int32)).toInt64) * (((((8 : Int32) - ((p4_ &&& (2147483647 : Int32)) % (9 : Int32))).toInt64) * ((1 : Int64) <<< ((p5_ &&& (7 : Int32)) &&& 0x3f).toInt64)) + ((((p4_ &&& (2147483647 : Int32)) % (9 : Int32)).toInt64) * ((p2_ &&& (1048575 : Int32)).toInt64)))))), .second, .unset, .unset, .unset, .unset, .unset] [(.long (0 : Int64)), (.long (((((p1_ &&& (65535 : Int32)).toInt64) * (32 : Int64)) * ((1 : Int64) <<< ((p5_ &&& (7 : Int32)) &&& 0x3f).toInt64)) + (((p3_ &&& (1023 : Int32)).toInt64) * (((((8 : Int32) - ((p4_ &&& (2147483647 : Int32)) % (9 : Int32))).toInt64) * ((1 : Int64) <<< ((p5_ &&& (7 : Int32)) &&& 0x3f).toInt64)) + ((((p4_ &&& (2147483647 : Int32)) % (9 : Int32)).toInt64) * ((p2_ &&& (1048575 : Int32)).toInt64))))))])) _
    refine XS.lcmp X0.here hx rfl (hb hby at_85) rfl ?_
    exact kt
  by_cases hc2 : (((((p1_ &&& (65535 : Int32)).toInt64) * (32 : Int64)) * ((1 : Int64) <<< ((p5_ &&& (7 : Int32)) &&& 0x3f).toInt64)) + (((p3_ &&& (1023 : Int32)).toInt64) * (((((8 : Int32) - ((p4_ &&& (2147483647 : Int32)) % (9 : Int32))).toInt64) * ((1 : Int64) <<< ((p5_ &&& (7 : Int32)) &&& 0x3f).toInt64)) + ((((p4_ &&& (2147483647 : Int32)) % (9 : Int32)).toInt64) * ((p2_ &&& (1048575 : Int32)).toInt64))))) = (0 : Int64)
  · have pre3 : ∀ t, Steps p.tables e below (s₁.setTop (mkF m 90 #[.val (.int p0_), .val (.int p1_), .val (.int p2_), .val (.int p3_), .val (.int p4_), .val (.int p5_), .val (.int (p0_ % (65536 : Int32))), .val (.int (p1_ &&& (65535 : Int32))), .val (.int (p2_ &&& (1048575 : Int32))), .val (.int (p3_ &&& (1023 : Int32))), .val (.int ((p4_ &&& (2147483647 : Int32)) % (9 : Int32))), .val (.int (p5_ &&& (7 : Int32))), .val (.long ((1 : Int64) <<< ((p5_ &&& (7 : Int32)) &&& 0x3f).toInt64)), .second, .val (.long (((((p1_ &&& (65535 : Int32)).toInt64) * (32 : Int64)) * ((1 : Int64) <<< ((p5_ &&& (7 : Int32)) &&& 0x3f).toInt64)) + (((p3_ &&& (1023 : Int32)).toInt64) * (((((8 : Int32) - ((p4_ &&& (2147483647 : Int32)) % (9 : Int32))).toInt64) * ((1 : Int64) <<< ((p5_ &&& (7 : Int32)) &&& 0x3f).toInt64)) + ((((p4_ &&& (2147483647 : Int32)) % (9 : Int32)).toInt64) * ((p2_ &&& (1048575 : Int32)).toInt64)))))), .second, .unset, .unset, .unset, .unset, .unset] [(.int (1 : Int32))])) t → Steps p.tables e below (s₁.setTop (entryFrame m #[(.int p0_), (.int p1_), (.int p2_), (.int p3_), (.int p4_), (.int p5_)] maxLocals)) t := by
      intro t kt
      refine pre1 t ?_
      show Steps p.tables e below (s₁.setTop (mkF m 86 #[.val (.int p0_), .val (.int p1_), .val (.int p2_), .val (.int p3_), .val (.int p4_), .val (.int p5_), .val (.int (p0_ % (65536 : Int32))), .val (.int (p1_ &&& (65535 : Int32))), .val (.int (p2_ &&& (1048575 : Int32))), .val (.int (p3_ &&& (1023 : Int32))), .val (.int ((p4_ &&& (2147483647 : Int32)) % (9 : Int32))), .val (.int (p5_ &&& (7 : Int32))), .val (.long ((1 : Int64) <<< ((p5_ &&& (7 : Int32)) &&& 0x3f).toInt64)), .second, .val (.long (((((p1_ &&& (65535 : Int32)).toInt64) * (32 : Int64)) * ((1 : Int64) <<< ((p5_ &&& (7 : Int32)) &&& 0x3f).toInt64)) + (((p3_ &&& (1023 : Int32)).toInt64) * (((((8 : Int32) - ((p4_ &&& (2147483647 : Int32)) % (9 : Int32))).toInt64) * ((1 : Int64) <<< ((p5_ &&& (7 : Int32)) &&& 0x3f).toInt64)) + ((((p4_ &&& (2147483647 : Int32)) % (9 : Int32)).toInt64) * ((p2_ &&& (1048575 : Int32)).toInt64)))))), .second, .unset, .unset, .unset, .unset, .unset] [(.int (lcmpW (((((p1_ &&& (65535 : Int32)).toInt64) * (32 : Int64)) * ((1 : Int64) <<< ((p5_ &&& (7 : Int32)) &&& 0x3f).toInt64)) + (((p3_ &&& (1023 : Int32)).toInt64) * (((((8 : Int32) - ((p4_ &&& (2147483647 : Int32)) % (9 : Int32))).toInt64) * ((1 : Int64) <<< ((p5_ &&& (7 : Int32)) &&& 0x3f).toInt64)) + ((((p4_ &&& (2147483647 : Int32)) % (9 : Int32)).toInt64) * ((p2_ &&& (1048575 : Int32)).toInt64))))) (0 : Int64)))])) _
      refine XS.ifNo X0.here hx rfl (hb hby at_86) rfl ((if0 _ _).trans (teq ((lw_eq _ _).mpr hc2)).2) ?_
      show Steps p.tables e below (s₁.setTop (mkF m 89 #[.val (.int p0_), .val (.int p1_), .val (.int p2_), .val (.int p3_), .val (.int p4_), .val (.int p5_), .val (.int (p0_ % (65536 : Int32))), .val (.int (p1_ &&& (65535 : Int32))), .val (.int (p2_ &&& (1048575 : Int32))), .val (.int (p3_ &&& (1023 : Int32))), .val (.int ((p4_ &&& (2147483647 : Int32)) % (9 : Int32))), .val (.int (p5_ &&& (7 : Int32))), .val (.long ((1 : Int64) <<< ((p5_ &&& (7 : Int32)) &&& 0x3f).toInt64)), .second, .val (.long (((((p1_ &&& (65535 : Int32)).toInt64) * (32 : Int64)) * ((1 : Int64) <<< ((p5_ &&& (7 : Int32)) &&& 0x3f).toInt64)) + (((p3_ &&& (1023 : Int32)).toInt64) * (((((8 : Int32) - ((p4_ &&& (2147483647 : Int32)) % (9 : Int32))).toInt64) * ((1 : Int64) <<< ((p5_ &&& (7 : Int32)) &&& 0x3f).toInt64)) + ((((p4_ &&& (2147483647 : Int32)) % (9 : Int32)).toInt64) * ((p2_ &&& (1048575 : Int32)).toInt64)))))), .second, .unset, .unset, .unset, .unset, .unset] [])) _
      refine XS.iconst X0.here hx rfl (hb hby at_89) ?_
      exact kt
    obtain ⟨fs, hr, hrun, hended, hW, hsame⟩ := X0.leave (v := some (.int (1 : Int32))) (fun h => by rw [Bd.returns] at h; cases h)
    refine ⟨_, _, pre3 _ (retN X0 hx (t := .boolean) Bd.returns (by simp) (hb hby at_90) hr), hrun, hended, _, _, rfl, ?_, ⟨_, rfl⟩, hW, hsame.mono (by decide) (by decide)⟩
    show QLaw Z p0_ p1_ p2_ p3_ p4_ p5_ h0 n0 _ s₁.heap _
    rw [e0]
    exact ⟨rfl, N0⟩
  · have hn5 : Jvm.Free.Fl.NoNaN64 (FP.ddiv (FP.i2d (p3_ &&& (1023 : Int32))) (4616189618054758400 : UInt64)) := own_E_nn (own_SAT HH)
    have hn6 : Jvm.Free.Fl.NoNaN64 (FP.ddiv (FP.i2d ((p4_ &&& (2147483647 : Int32)) % (9 : Int32))) (4620693217682128896 : UInt64)) := own_E_nn (own_B HH)
    obtain ⟨T7, h7, X7, e7, E7, A7, D7, -, st7⟩ := newO X0 hx hZ hown (hw _ (List.mem_of_getElem? (i := 6) rfl)) (hw _ (List.mem_of_getElem? (i := 7) rfl)) (hw _ (List.mem_of_getElem? (i := 8) rfl)) e0 (g := (mkF m 113 #[.val (.int p0_), .val (.int p1_), .val (.int p2_), .val (.int p3_), .val (.int p4_), .val (.int p5_), .val (.int (p0_ % (65536 : Int32))), .val (.int (p1_ &&& (65535 : Int32))), .val (.int (p2_ &&& (1048575 : Int32))), .val (.int (p3_ &&& (1023 : Int32))), .val (.int ((p4_ &&& (2147483647 : Int32)) % (9 : Int32))), .val (.int (p5_ &&& (7 : Int32))), .val (.long ((1 : Int64) <<< ((p5_ &&& (7 : Int32)) &&& 0x3f).toInt64)), .second, .val (.long (((((p1_ &&& (65535 : Int32)).toInt64) * (32 : Int64)) * ((1 : Int64) <<< ((p5_ &&& (7 : Int32)) &&& 0x3f).toInt64)) + (((p3_ &&& (1023 : Int32)).toInt64) * (((((8 : Int32) - ((p4_ &&& (2147483647 : Int32)) % (9 : Int32))).toInt64) * ((1 : Int64) <<< ((p5_ &&& (7 : Int32)) &&& 0x3f).toInt64)) + ((((p4_ &&& (2147483647 : Int32)) % (9 : Int32)).toInt64) * ((p2_ &&& (1048575 : Int32)).toInt64)))))), .second, .val (.long ((((((p0_ % (65536 : Int32)).toInt64) * ((p1_ &&& (65535 : Int32)).toInt64)) * (((p3_ &&& (1023 : Int32)) + (4 : Int32)).toInt64)) * (8 : Int64)) * ((1 : Int64) <<< ((p5_ &&& (7 : Int32)) &&& 0x3f).toInt64))), .second, .unset, .unset, .unset] [])) rfl (hb hby at_113) (by decide) (by decide)
    obtain ⟨b7, g7⟩ : ∃ z, z = h0.size := ⟨_, rfl⟩
    rw [← g7] at A7 D7 st7
    have ge8 : n0 ≤ b7 := Nat.le_trans (Nat.le_trans (Nat.le_of_eq O0.1.symm) O0.2.1) (Nat.le_of_eq g7.symm)
    have sz9 : h0.size ≤ b7 := Nat.le_trans K0.1 (Nat.le_of_eq g7.symm)
    have f10 : Fld Z h7 b7 "com/example/inquiry_into_concepts/inquiryintoconcepts/ranking/Bm25" "saturation" "D" (.double (0 : UInt64)) := D7 (Or.inr (hw _ (List.mem_of_getElem? (i := 19) rfl))) (ty := .double) (by decide)
    have f11 : Fld Z h7 b7 "com/example/inquiry_into_concepts/inquiryintoconcepts/ranking/Bm25" "lengthNormalisation" "D" (.double (0 : UInt64)) := D7 (Or.inr (hw _ (List.mem_of_getElem? (i := 21) rfl))) (ty := .double) (by decide)
    have hn12 : ¬ ((cmpValue (FP.dcmp (FP.ddiv (FP.i2d (p3_ &&& (1023 : Int32))) (4616189618054758400 : UInt64)) (0 : UInt64)) .l) < (0 : Int32)) := own_k1 HH
    have hn13 : (cmpValue (FP.dcmp (FP.ddiv (FP.i2d (p3_ &&& (1023 : Int32))) (4616189618054758400 : UInt64)) (9218868437227405312 : UInt64)) .g) < (0 : Int32) := own_k2 HH
    have hn14 : ¬ ((cmpValue (FP.dcmp (FP.ddiv (FP.i2d ((p4_ &&& (2147483647 : Int32)) % (9 : Int32))) (4620693217682128896 : UInt64)) (0 : UInt64)) .l) < (0 : Int32)) := own_k3 HH
    have hn15 : ¬ ((0 : Int32) < (cmpValue (FP.dcmp (FP.ddiv (FP.i2d ((p4_ &&& (2147483647 : Int32)) % (9 : Int32))) (4620693217682128896 : UInt64)) (4607182418800017408 : UInt64)) .g)) := own_k4 HH
    have f17 : Old Z n0 h7 := O0.ext E7
    obtain ⟨_, _, ⟨T16, L16, k16, n16⟩, -, X16, ⟨Lc16, hQ16, l16, y16, z16⟩, st16⟩ := X7.specialBack hx (y := (⟨"com/example/inquiry_into_concepts/inquiryintoconcepts/ranking/Bm25", "<init>", "(DD)V"⟩ : MethodName)) rfl hown (mvT hZ (hw _ (List.mem_of_getElem? (i := 11) rfl))) (mvT hZ (hw _ (List.mem_of_getElem? (i := 12) rfl))) (mvT hZ (hw _ (List.mem_of_getElem? (i := 13) rfl))) (by decide) (backOf (W := 1) (rminit1 l Z a0 hw [] b7 (FP.ddiv (FP.i2d (p3_ &&& (1023 : Int32))) (4616189618054758400 : UInt64)) (FP.ddiv (FP.i2d ((p4_ &&& (2147483647 : Int32)) % (9 : Int32))) (4620693217682128896 : UInt64)) h7 n0 f17 hn5 hn6 hn12 hn13 hn14 hn15 A7 f10 f11 ge8) hZ (hw _ (List.mem_of_getElem? (i := 13) rfl)) (hw _ (List.mem_of_getElem? (i := 8) rfl)) (by decide) (by decide)) (g := (mkF m 131 #[.val (.int p0_), .val (.int p1_), .val (.int p2_), .val (.int p3_), .val (.int p4_), .val (.int p5_), .val (.int (p0_ % (65536 : Int32))), .val (.int (p1_ &&& (65535 : Int32))), .val (.int (p2_ &&& (1048575 : Int32))), .val (.int (p3_ &&& (1023 : Int32))), .val (.int ((p4_ &&& (2147483647 : Int32)) % (9 : Int32))), .val (.int (p5_ &&& (7 : Int32))), .val (.long ((1 : Int64) <<< ((p5_ &&& (7 : Int32)) &&& 0x3f).toInt64)), .second, .val (.long (((((p1_ &&& (65535 : Int32)).toInt64) * (32 : Int64)) * ((1 : Int64) <<< ((p5_ &&& (7 : Int32)) &&& 0x3f).toInt64)) + (((p3_ &&& (1023 : Int32)).toInt64) * (((((8 : Int32) - ((p4_ &&& (2147483647 : Int32)) % (9 : Int32))).toInt64) * ((1 : Int64) <<< ((p5_ &&& (7 : Int32)) &&& 0x3f).toInt64)) + ((((p4_ &&& (2147483647 : Int32)) % (9 : Int32)).toInt64) * ((p2_ &&& (1048575 : Int32)).toInt64)))))), .second, .val (.long ((((((p0_ % (65536 : Int32)).toInt64) * ((p1_ &&& (65535 : Int32)).toInt64)) * (((p3_ &&& (1023 : Int32)) + (4 : Int32)).toInt64)) * (8 : Int64)) * ((1 : Int64) <<< ((p5_ &&& (7 : Int32)) &&& 0x3f).toInt64))), .second, .unset, .unset, .unset] [(.double (FP.ddiv (FP.i2d ((p4_ &&& (2147483647 : Int32)) % (9 : Int32))) (4620693217682128896 : UInt64))), (.double (FP.ddiv (FP.i2d (p3_ &&& (1023 : Int32))) (4616189618054758400 : UInt64))), (.ref b7), (.ref b7)])) rfl (by rw [hml]; rfl) (Steps.refl _) (a := b7) (argsL := [(.double (FP.ddiv (FP.i2d (p3_ &&& (1023 : Int32))) (4616189618054758400 : UInt64))), (.double (FP.ddiv (FP.i2d ((p4_ &&& (2147483647 : Int32)) % (9 : Int32))) (4620693217682128896 : UInt64)))]) (rest := [(.ref b7)]) (lenOf pd_0 rfl) rfl (by show 2 * 0 + _ ≤ _; exact Nat.le_of_eq rfl) (hb hby at_131) (fun _ _ => ⟨rfl, e7, (by decide : 1 + 0 ≤ _), (by decide : 2 + 0 ≤ _)⟩)
    dsimp only [Pt.U, Pt.locs, Pt.cells, Pt.slots] at X16 l16 y16 z16 st16 hQ16
    subst l16 y16 z16
    obtain ⟨h16, e16⟩ : ∃ z, T16.heap = z := ⟨_, rfl⟩
    rw [e16] at hQ16
    obtain ⟨rfl, N16q, K16, g16_0, g16_1, g16_2⟩ := hQ16
    have N18 := Fr.app N0 N16q
    have hn19 : Jvm.Free.Fl.NoNaN64 (FP.ddiv (FP.l2d ((p2_ &&& (1048575 : Int32)).toInt64)) (FP.l2d ((1 : Int64) <<< ((p5_ &&& (7 : Int32)) &&& 0x3f).toInt64))) := own_E_nn (own_e1 HH)
    have hn20 : Jvm.Free.Fl.NoNaN64 (FP.dsub (4607182418800017408 : UInt64) (FP.ddiv (FP.i2d ((p4_ &&& (2147483647 : Int32)) % (9 : Int32))) (4620693217682128896 : UInt64))) := own_E_nn (own_e2 HH)
    have hn21 : Jvm.Free.Fl.NoNaN64 (FP.dmul (FP.ddiv (FP.i2d ((p4_ &&& (2147483647 : Int32)) % (9 : Int32))) (4620693217682128896 : UInt64)) (FP.ddiv (FP.l2d ((p2_ &&& (1048575 : Int32)).toInt64)) (FP.l2d ((1 : Int64) <<< ((p5_ &&& (7 : Int32)) &&& 0x3f).toInt64)))) := own_E_nn (own_e3 HH)
    have hn22 : Jvm.Free.Fl.NoNaN64 (FP.dadd (FP.dsub (4607182418800017408 : UInt64) (FP.ddiv (FP.i2d ((p4_ &&& (2147483647 : Int32)) % (9 : Int32))) (4620693217682128896 : UInt64))) (FP.dmul (FP.ddiv (FP.i2d ((p4_ &&& (2147483647 : Int32)) % (9 : Int32))) (4620693217682128896 : UInt64)) (FP.ddiv (FP.l2d ((p2_ &&& (1048575 : Int32)).toInt64)) (FP.l2d ((1 : Int64) <<< ((p5_ &&& (7 : Int32)) &&& 0x3f).toInt64))))) := own_E_nn (own_e4 HH)
    have hn23 : Jvm.Free.Fl.NoNaN64 (FP.dmul (FP.i2d (p0_ % (65536 : Int32))) (FP.l2d ((p1_ &&& (65535 : Int32)).toInt64))) := own_E_nn (own_e5 HH)
    have hn24 : Jvm.Free.Fl.NoNaN64 (FP.dadd (FP.ddiv (FP.i2d (p3_ &&& (1023 : Int32))) (4616189618054758400 : UInt64)) (4607182418800017408 : UInt64)) := own_E_nn (own_e6 HH)
    have hn25 : Jvm.Free.Fl.NoNaN64 (FP.dmul (FP.dmul (FP.i2d (p0_ % (65536 : Int32))) (FP.l2d ((p1_ &&& (65535 : Int32)).toInt64))) (FP.dadd (FP.ddiv (FP.i2d (p3_ &&& (1023 : Int32))) (4616189618054758400 : UInt64)) (4607182418800017408 : UInt64))) := own_E_nn (own_e7 HH)
    have hn26 : Jvm.Free.Fl.NoNaN64 (FP.dmul (FP.ddiv (FP.i2d (p3_ &&& (1023 : Int32))) (4616189618054758400 : UInt64)) (FP.dadd (FP.dsub (4607182418800017408 : UInt64) (FP.ddiv (FP.i2d ((p4_ &&& (2147483647 : Int32)) % (9 : Int32))) (4620693217682128896 : UInt64))) (FP.dmul (FP.ddiv (FP.i2d ((p4_ &&& (2147483647 : Int32)) % (9 : Int32))) (4620693217682128896 : UInt64)) (FP.ddiv (FP.l2d ((p2_ &&& (1048575 : Int32)).toInt64)) (FP.l2d ((1 : Int64) <<< ((p5_ &&& (7 : Int32)) &&& 0x3f).toInt64)))))) := own_E_nn (own_e8 HH)
    have hn27 : Jvm.Free.Fl.NoNaN64 (FP.dadd (FP.l2d ((p1_ &&& (65535 : Int32)).toInt64)) (FP.dmul (FP.ddiv (FP.i2d (p3_ &&& (1023 : Int32))) (4616189618054758400 : UInt64)) (FP.dadd (FP.dsub (4607182418800017408 : UInt64) (FP.ddiv (FP.i2d ((p4_ &&& (2147483647 : Int32)) % (9 : Int32))) (4620693217682128896 : UInt64))) (FP.dmul (FP.ddiv (FP.i2d ((p4_ &&& (2147483647 : Int32)) % (9 : Int32))) (4620693217682128896 : UInt64)) (FP.ddiv (FP.l2d ((p2_ &&& (1048575 : Int32)).toInt64)) (FP.l2d ((1 : Int64) <<< ((p5_ &&& (7 : Int32)) &&& 0x3f).toInt64))))))) := own_E_nn (own_e9 HH)
    have hn28 : Jvm.Free.Fl.NoNaN64 (FP.ddiv (FP.dmul (FP.dmul (FP.i2d (p0_ % (65536 : Int32))) (FP.l2d ((p1_ &&& (65535 : Int32)).toInt64))) (FP.dadd (FP.ddiv (FP.i2d (p3_ &&& (1023 : Int32))) (4616189618054758400 : UInt64)) (4607182418800017408 : UInt64))) (FP.dadd (FP.l2d ((p1_ &&& (65535 : Int32)).toInt64)) (FP.dmul (FP.ddiv (FP.i2d (p3_ &&& (1023 : Int32))) (4616189618054758400 : UInt64)) (FP.dadd (FP.dsub (4607182418800017408 : UInt64) (FP.ddiv (FP.i2d ((p4_ &&& (2147483647 : Int32)) % (9 : Int32))) (4620693217682128896 : UInt64))) (FP.dmul (FP.ddiv (FP.i2d ((p4_ &&& (2147483647 : Int32)) % (9 : Int32))) (4620693217682128896 : UInt64)) (FP.ddiv (FP.l2d ((p2_ &&& (1048575 : Int32)).toInt64)) (FP.l2d ((1 : Int64) <<< ((p5_ &&& (7 : Int32)) &&& 0x3f).toInt64)))))))) := own_n10 HH hc2
    have hn29 : Jvm.Free.Fl.NoNaN64 (FP.ddiv (FP.l2d ((((((p0_ % (65536 : Int32)).toInt64) * ((p1_ &&& (65535 : Int32)).toInt64)) * (((p3_ &&& (1023 : Int32)) + (4 : Int32)).toInt64)) * (8 : Int64)) * ((1 : Int64) <<< ((p5_ &&& (7 : Int32)) &&& 0x3f).toInt64))) (FP.l2d (((((p1_ &&& (65535 : Int32)).toInt64) * (32 : Int64)) * ((1 : Int64) <<< ((p5_ &&& (7 : Int32)) &&& 0x3f).toInt64)) + (((p3_ &&& (1023 : Int32)).toInt64) * (((((8 : Int32) - ((p4_ &&& (2147483647 : Int32)) % (9 : Int32))).toInt64) * ((1 : Int64) <<< ((p5_ &&& (7 : Int32)) &&& 0x3f).toInt64)) + ((((p4_ &&& (2147483647 : Int32)) % (9 : Int32)).toInt64) * ((p2_ &&& (1048575 : Int32)).toInt64))))))) := own_nq HH hc2
    have f31 : Old Z n0 h16 := f17.keep K16 (allS (ge8) all0)
    obtain ⟨cq30, kq30, q30a, q30b, q30c⟩ := isOf hZ e16 g16_0
    obtain ⟨_, _, ⟨T30, L30, k30, n30⟩, -, X30, ⟨Lc30, hQ30, l30, y30, z30⟩, st30⟩ := X16.virtualBack hx (y := (⟨"com/example/inquiry_into_concepts/inquiryintoconcepts/ranking/Bm25", "termScore", "(DJJD)D"⟩ : MethodName)) (z := (⟨"com/example/inquiry_into_concepts/inquiryintoconcepts/ranking/Bm25", "termScore", "(DJJD)D"⟩ : MethodName)) hown (mvT hZ (hw _ (List.mem_of_getElem? (i := 22) rfl))) (mvT hZ (hw _ (List.mem_of_getElem? (i := 23) rfl))) (notFace_of_selects (args := #[]) (mvT hZ (hw _ (List.mem_of_getElem? (i := 25) rfl)))) (mvT hZ (hw _ (List.mem_of_getElem? (i := 25) rfl))) (mvT hZ (hw _ (List.mem_of_getElem? (i := 24) rfl))) (by decide) (backOf (W := 0) (rmtermScore2 l Z a0 hw [] b7 (FP.i2d (p0_ % (65536 : Int32))) ((p1_ &&& (65535 : Int32)).toInt64) ((p2_ &&& (1048575 : Int32)).toInt64) (FP.l2d ((1 : Int64) <<< ((p5_ &&& (7 : Int32)) &&& 0x3f).toInt64)) (FP.ddiv (FP.i2d (p3_ &&& (1023 : Int32))) (4616189618054758400 : UInt64)) (FP.ddiv (FP.i2d ((p4_ &&& (2147483647 : Int32)) % (9 : Int32))) (4620693217682128896 : UInt64)) h16 n0 f31 hn5 hn6 hn12 hn13 hn14 hn15 hn19 hn20 hn21 hn22 hn23 hn24 hn25 hn26 hn27 hn28 g16_0 g16_1 g16_2) hZ (hw _ (List.mem_of_getElem? (i := 26) rfl)) (hw _ (List.mem_of_getElem? (i := 8) rfl)) (by decide) (by decide)) q30a q30c (g := (mkF m 150 #[.val (.int p0_), .val (.int p1_), .val (.int p2_), .val (.int p3_), .val (.int p4_), .val (.int p5_), .val (.int (p0_ % (65536 : Int32))), .val (.int (p1_ &&& (65535 : Int32))), .val (.int (p2_ &&& (1048575 : Int32))), .val (.int (p3_ &&& (1023 : Int32))), .val (.int ((p4_ &&& (2147483647 : Int32)) % (9 : Int32))), .val (.int (p5_ &&& (7 : Int32))), .val (.long ((1 : Int64) <<< ((p5_ &&& (7 : Int32)) &&& 0x3f).toInt64)), .second, .val (.long (((((p1_ &&& (65535 : Int32)).toInt64) * (32 : Int64)) * ((1 : Int64) <<< ((p5_ &&& (7 : Int32)) &&& 0x3f).toInt64)) + (((p3_ &&& (1023 : Int32)).toInt64) * (((((8 : Int32) - ((p4_ &&& (2147483647 : Int32)) % (9 : Int32))).toInt64) * ((1 : Int64) <<< ((p5_ &&& (7 : Int32)) &&& 0x3f).toInt64)) + ((((p4_ &&& (2147483647 : Int32)) % (9 : Int32)).toInt64) * ((p2_ &&& (1048575 : Int32)).toInt64)))))), .second, .val (.long ((((((p0_ % (65536 : Int32)).toInt64) * ((p1_ &&& (65535 : Int32)).toInt64)) * (((p3_ &&& (1023 : Int32)) + (4 : Int32)).toInt64)) * (8 : Int64)) * ((1 : Int64) <<< ((p5_ &&& (7 : Int32)) &&& 0x3f).toInt64))), .second, .val (.ref b7), .unset, .unset] [(.double (FP.l2d ((1 : Int64) <<< ((p5_ &&& (7 : Int32)) &&& 0x3f).toInt64))), (.long ((p2_ &&& (1048575 : Int32)).toInt64)), (.long ((p1_ &&& (65535 : Int32)).toInt64)), (.double (FP.i2d (p0_ % (65536 : Int32)))), (.ref b7)])) rfl (by rw [hml]; rfl) (Steps.refl _) (argsL := [(.double (FP.i2d (p0_ % (65536 : Int32)))), (.long ((p1_ &&& (65535 : Int32)).toInt64)), (.long ((p2_ &&& (1048575 : Int32)).toInt64)), (.double (FP.l2d ((1 : Int64) <<< ((p5_ &&& (7 : Int32)) &&& 0x3f).toInt64)))]) (rest := []) (lenOf pd_1 rfl) rfl (by show 2 * 0 + _ ≤ _; exact Nat.le_of_eq rfl) (hb hby at_150) (fun _ _ => ⟨rfl, e16, (by decide : 1 + 0 ≤ _), (by decide : 2 + 0 ≤ _)⟩)
    dsimp only [Pt.U, Pt.locs, Pt.cells, Pt.slots] at X30 l30 y30 z30 st30 hQ30
    subst l30 y30 z30
    obtain ⟨h30, e30⟩ : ∃ z, T30.heap = z := ⟨_, rfl⟩
    rw [e30] at hQ30
    obtain ⟨rfl, N30q, hh30⟩ := hQ30
    have N32 := Fr.app N18 N30q
    have e30' : T30.heap = h16 := e30.trans hh30
    have hn33 : (cmpValue (FP.dcmp (FP.ddiv (FP.dmul (FP.dmul (FP.i2d (p0_ % (65536 : Int32))) (FP.l2d ((p1_ &&& (65535 : Int32)).toInt64))) (FP.dadd (FP.ddiv (FP.i2d (p3_ &&& (1023 : Int32))) (4616189618054758400 : UInt64)) (4607182418800017408 : UInt64))) (FP.dadd (FP.l2d ((p1_ &&& (65535 : Int32)).toInt64)) (FP.dmul (FP.ddiv (FP.i2d (p3_ &&& (1023 : Int32))) (4616189618054758400 : UInt64)) (FP.dadd (FP.dsub (4607182418800017408 : UInt64) (FP.ddiv (FP.i2d ((p4_ &&& (2147483647 : Int32)) % (9 : Int32))) (4620693217682128896 : UInt64))) (FP.dmul (FP.ddiv (FP.i2d ((p4_ &&& (2147483647 : Int32)) % (9 : Int32))) (4620693217682128896 : UInt64)) (FP.ddiv (FP.l2d ((p2_ &&& (1048575 : Int32)).toInt64)) (FP.l2d ((1 : Int64) <<< ((p5_ &&& (7 : Int32)) &&& 0x3f).toInt64)))))))) (FP.ddiv (FP.l2d ((((((p0_ % (65536 : Int32)).toInt64) * ((p1_ &&& (65535 : Int32)).toInt64)) * (((p3_ &&& (1023 : Int32)) + (4 : Int32)).toInt64)) * (8 : Int64)) * ((1 : Int64) <<< ((p5_ &&& (7 : Int32)) &&& 0x3f).toInt64))) (FP.l2d (((((p1_ &&& (65535 : Int32)).toInt64) * (32 : Int64)) * ((1 : Int64) <<< ((p5_ &&& (7 : Int32)) &&& 0x3f).toInt64)) + (((p3_ &&& (1023 : Int32)).toInt64) * (((((8 : Int32) - ((p4_ &&& (2147483647 : Int32)) % (9 : Int32))).toInt64) * ((1 : Int64) <<< ((p5_ &&& (7 : Int32)) &&& 0x3f).toInt64)) + ((((p4_ &&& (2147483647 : Int32)) % (9 : Int32)).toInt64) * ((p2_ &&& (1048575 : Int32)).toInt64)))))))) .l) = (0 : Int32) := own_fin HH hc2
    have pre34 : ∀ t, Steps p.tables e below (T30.setTop (mkF m 173 #[.val (.int p0_), .val (.int p1_), .val (.int p2_), .val (.int p3_), .val (.int p4_), .val (.int p5_), .val (.int (p0_ % (65536 : Int32))), .val (.int (p1_ &&& (65535 : Int32))), .val (.int (p2_ &&& (1048575 : Int32))), .val (.int (p3_ &&& (1023 : Int32))), .val (.int ((p4_ &&& (2147483647 : Int32)) % (9 : Int32))), .val (.int (p5_ &&& (7 : Int32))), .val (.long ((1 : Int64) <<< ((p5_ &&& (7 : Int32)) &&& 0x3f).toInt64)), .second, .val (.long (((((p1_ &&& (65535 : Int32)).toInt64) * (32 : Int64)) * ((1 : Int64) <<< ((p5_ &&& (7 : Int32)) &&& 0x3f).toInt64)) + (((p3_ &&& (1023 : Int32)).toInt64) * (((((8 : Int32) - ((p4_ &&& (2147483647 : Int32)) % (9 : Int32))).toInt64) * ((1 : Int64) <<< ((p5_ &&& (7 : Int32)) &&& 0x3f).toInt64)) + ((((p4_ &&& (2147483647 : Int32)) % (9 : Int32)).toInt64) * ((p2_ &&& (1048575 : Int32)).toInt64)))))), .second, .val (.long ((((((p0_ % (65536 : Int32)).toInt64) * ((p1_ &&& (65535 : Int32)).toInt64)) * (((p3_ &&& (1023 : Int32)) + (4 : Int32)).toInt64)) * (8 : Int64)) * ((1 : Int64) <<< ((p5_ &&& (7 : Int32)) &&& 0x3f).toInt64))), .second, .val (.ref b7), .val (.double (FP.ddiv (FP.dmul (FP.dmul (FP.i2d (p0_ % (65536 : Int32))) (FP.l2d ((p1_ &&& (65535 : Int32)).toInt64))) (FP.dadd (FP.ddiv (FP.i2d (p3_ &&& (1023 : Int32))) (4616189618054758400 : UInt64)) (4607182418800017408 : UInt64))) (FP.dadd (FP.l2d ((p1_ &&& (65535 : Int32)).toInt64)) (FP.dmul (FP.ddiv (FP.i2d (p3_ &&& (1023 : Int32))) (4616189618054758400 : UInt64)) (FP.dadd (FP.dsub (4607182418800017408 : UInt64) (FP.ddiv (FP.i2d ((p4_ &&& (2147483647 : Int32)) % (9 : Int32))) (4620693217682128896 : UInt64))) (FP.dmul (FP.ddiv (FP.i2d ((p4_ &&& (2147483647 : Int32)) % (9 : Int32))) (4620693217682128896 : UInt64)) (FP.ddiv (FP.l2d ((p2_ &&& (1048575 : Int32)).toInt64)) (FP.l2d ((1 : Int64) <<< ((p5_ &&& (7 : Int32)) &&& 0x3f).toInt64))))))))), .second] [(.int (1 : Int32))])) t → Steps p.tables e below (s₁.setTop (entryFrame m #[(.int p0_), (.int p1_), (.int p2_), (.int p3_), (.int p4_), (.int p5_)] maxLocals)) t := by
      intro t kt
      refine pre1 t ?_
      show Steps p.tables e below (s₁.setTop (mkF m 86 #[.val (.int p0_), .val (.int p1_), .val (.int p2_), .val (.int p3_), .val (.int p4_), .val (.int p5_), .val (.int (p0_ % (65536 : Int32))), .val (.int (p1_ &&& (65535 : Int32))), .val (.int (p2_ &&& (1048575 : Int32))), .val (.int (p3_ &&& (1023 : Int32))), .val (.int ((p4_ &&& (2147483647 : Int32)) % (9 : Int32))), .val (.int (p5_ &&& (7 : Int32))), .val (.long ((1 : Int64) <<< ((p5_ &&& (7 : Int32)) &&& 0x3f).toInt64)), .second, .val (.long (((((p1_ &&& (65535 : Int32)).toInt64) * (32 : Int64)) * ((1 : Int64) <<< ((p5_ &&& (7 : Int32)) &&& 0x3f).toInt64)) + (((p3_ &&& (1023 : Int32)).toInt64) * (((((8 : Int32) - ((p4_ &&& (2147483647 : Int32)) % (9 : Int32))).toInt64) * ((1 : Int64) <<< ((p5_ &&& (7 : Int32)) &&& 0x3f).toInt64)) + ((((p4_ &&& (2147483647 : Int32)) % (9 : Int32)).toInt64) * ((p2_ &&& (1048575 : Int32)).toInt64)))))), .second, .unset, .unset, .unset, .unset, .unset] [(.int (lcmpW (((((p1_ &&& (65535 : Int32)).toInt64) * (32 : Int64)) * ((1 : Int64) <<< ((p5_ &&& (7 : Int32)) &&& 0x3f).toInt64)) + (((p3_ &&& (1023 : Int32)).toInt64) * (((((8 : Int32) - ((p4_ &&& (2147483647 : Int32)) % (9 : Int32))).toInt64) * ((1 : Int64) <<< ((p5_ &&& (7 : Int32)) &&& 0x3f).toInt64)) + ((((p4_ &&& (2147483647 : Int32)) % (9 : Int32)).toInt64) * ((p2_ &&& (1048575 : Int32)).toInt64))))) (0 : Int64)))])) _
      refine XS.ifYes X0.here hx rfl (pc0 := 86) (pc' := 91) rfl (hb hby at_86) rfl ((if0 _ _).trans (feq (fun z => hc2 ((lw_eq _ _).mp z))).2) (by decide) (by decide) ?_
      show Steps p.tables e below (s₁.setTop (mkF m 91 #[.val (.int p0_), .val (.int p1_), .val (.int p2_), .val (.int p3_), .val (.int p4_), .val (.int p5_), .val (.int (p0_ % (65536 : Int32))), .val (.int (p1_ &&& (65535 : Int32))), .val (.int (p2_ &&& (1048575 : Int32))), .val (.int (p3_ &&& (1023 : Int32))), .val (.int ((p4_ &&& (2147483647 : Int32)) % (9 : Int32))), .val (.int (p5_ &&& (7 : Int32))), .val (.long ((1 : Int64) <<< ((p5_ &&& (7 : Int32)) &&& 0x3f).toInt64)), .second, .val (.long (((((p1_ &&& (65535 : Int32)).toInt64) * (32 : Int64)) * ((1 : Int64) <<< ((p5_ &&& (7 : Int32)) &&& 0x3f).toInt64)) + (((p3_ &&& (1023 : Int32)).toInt64) * (((((8 : Int32) - ((p4_ &&& (2147483647 : Int32)) % (9 : Int32))).toInt64) * ((1 : Int64) <<< ((p5_ &&& (7 : Int32)) &&& 0x3f).toInt64)) + ((((p4_ &&& (2147483647 : Int32)) % (9 : Int32)).toInt64) * ((p2_ &&& (1048575 : Int32)).toInt64)))))), .second, .unset, .unset, .unset, .unset, .unset] [])) _
      refine XS.iload X0.here hx rfl (hb hby at_91) rfl ?_
      show Steps p.tables e below (s₁.setTop (mkF m 93 #[.val (.int p0_), .val (.int p1_), .val (.int p2_), .val (.int p3_), .val (.int p4_), .val (.int p5_), .val (.int (p0_ % (65536 : Int32))), .val (.int (p1_ &&& (65535 : Int32))), .val (.int (p2_ &&& (1048575 : Int32))), .val (.int (p3_ &&& (1023 : Int32))), .val (.int ((p4_ &&& (2147483647 : Int32)) % (9 : Int32))), .val (.int (p5_ &&& (7 : Int32))), .val (.long ((1 : Int64) <<< ((p5_ &&& (7 : Int32)) &&& 0x3f).toInt64)), .second, .val (.long (((((p1_ &&& (65535 : Int32)).toInt64) * (32 : Int64)) * ((1 : Int64) <<< ((p5_ &&& (7 : Int32)) &&& 0x3f).toInt64)) + (((p3_ &&& (1023 : Int32)).toInt64) * (((((8 : Int32) - ((p4_ &&& (2147483647 : Int32)) % (9 : Int32))).toInt64) * ((1 : Int64) <<< ((p5_ &&& (7 : Int32)) &&& 0x3f).toInt64)) + ((((p4_ &&& (2147483647 : Int32)) % (9 : Int32)).toInt64) * ((p2_ &&& (1048575 : Int32)).toInt64)))))), .second, .unset, .unset, .unset, .unset, .unset] [(.int (p0_ % (65536 : Int32)))])) _
      refine XS.i2l X0.here hx rfl (hb hby at_93) rfl ?_
      show Steps p.tables e below (s₁.setTop (mkF m 94 #[.val (.int p0_), .val (.int p1_), .val (.int p2_), .val (.int p3_), .val (.int p4_), .val (.int p5_), .val (.int (p0_ % (65536 : Int32))), .val (.int (p1_ &&& (65535 : Int32))), .val (.int (p2_ &&& (1048575 : Int32))), .val (.int (p3_ &&& (1023 : Int32))), .val (.int ((p4_ &&& (2147483647 : Int32)) % (9 : Int32))), .val (.int (p5_ &&& (7 : Int32))), .val (.long ((1 : Int64) <<< ((p5_ &&& (7 : Int32)) &&& 0x3f).toInt64)), .second, .val (.long (((((p1_ &&& (65535 : Int32)).toInt64) * (32 : Int64)) * ((1 : Int64) <<< ((p5_ &&& (7 : Int32)) &&& 0x3f).toInt64)) + (((p3_ &&& (1023 : Int32)).toInt64) * (((((8 : Int32) - ((p4_ &&& (2147483647 : Int32)) % (9 : Int32))).toInt64) * ((1 : Int64) <<< ((p5_ &&& (7 : Int32)) &&& 0x3f).toInt64)) + ((((p4_ &&& (2147483647 : Int32)) % (9 : Int32)).toInt64) * ((p2_ &&& (1048575 : Int32)).toInt64)))))), .second, .unset, .unset, .unset, .unset, .unset] [(.long ((p0_ % (65536 : Int32)).toInt64))])) _
      refine XS.iload X0.here hx rfl (hb hby at_94) rfl ?_
      show Steps p.tables e below (s₁.setTop (mkF m 96 #[.val (.int p0_), .val (.int p1_), .val (.int p2_), .val (.int p3_), .val (.int p4_), .val (.int p5_), .val (.int (p0_ % (65536 : Int32))), .val (.int (p1_ &&& (65535 : Int32))), .val (.int (p2_ &&& (1048575 : Int32))), .val (.int (p3_ &&& (1023 : Int32))), .val (.int ((p4_ &&& (2147483647 : Int32)) % (9 : Int32))), .val (.int (p5_ &&& (7 : Int32))), .val (.long ((1 : Int64) <<< ((p5_ &&& (7 : Int32)) &&& 0x3f).toInt64)), .second, .val (.long (((((p1_ &&& (65535 : Int32)).toInt64) * (32 : Int64)) * ((1 : Int64) <<< ((p5_ &&& (7 : Int32)) &&& 0x3f).toInt64)) + (((p3_ &&& (1023 : Int32)).toInt64) * (((((8 : Int32) - ((p4_ &&& (2147483647 : Int32)) % (9 : Int32))).toInt64) * ((1 : Int64) <<< ((p5_ &&& (7 : Int32)) &&& 0x3f).toInt64)) + ((((p4_ &&& (2147483647 : Int32)) % (9 : Int32)).toInt64) * ((p2_ &&& (1048575 : Int32)).toInt64)))))), .second, .unset, .unset, .unset, .unset, .unset] [(.int (p1_ &&& (65535 : Int32))), (.long ((p0_ % (65536 : Int32)).toInt64))])) _
      refine XS.i2l X0.here hx rfl (hb hby at_96) rfl ?_
      show Steps p.tables e below (s₁.setTop (mkF m 97 #[.val (.int p0_), .val (.int p1_), .val (.int p2_), .val (.int p3_), .val (.int p4_), .val (.int p5_), .val (.int (p0_ % (65536 : Int32))), .val (.int (p1_ &&& (65535 : Int32))), .val (.int (p2_ &&& (1048575 : Int32))), .val (.int (p3_ &&& (1023 : Int32))), .val (.int ((p4_ &&& (2147483647 : Int32)) % (9 : Int32))), .val (.int (p5_ &&& (7 : Int32))), .val (.long ((1 : Int64) <<< ((p5_ &&& (7 : Int32)) &&& 0x3f).toInt64)), .second, .val (.long (((((p1_ &&& (65535 : Int32)).toInt64) * (32 : Int64)) * ((1 : Int64) <<< ((p5_ &&& (7 : Int32)) &&& 0x3f).toInt64)) + (((p3_ &&& (1023 : Int32)).toInt64) * (((((8 : Int32) - ((p4_ &&& (2147483647 : Int32)) % (9 : Int32))).toInt64) * ((1 : Int64) <<< ((p5_ &&& (7 : Int32)) &&& 0x3f).toInt64)) + ((((p4_ &&& (2147483647 : Int32)) % (9 : Int32)).toInt64) * ((p2_ &&& (1048575 : Int32)).toInt64)))))), .second, .unset, .unset, .unset, .unset, .unset] [(.long ((p1_ &&& (65535 : Int32)).toInt64)), (.long ((p0_ % (65536 : Int32)).toInt64))])) _
      refine XS.lmul X0.here hx rfl (hb hby at_97) rfl ?_
      show Steps p.tables e below (s₁.setTop (mkF m 98 #[.val (.int p0_), .val (.int p1_), .val (.int p2_), .val (.int p3_), .val (.int p4_), .val (.int p5_), .val (.int (p0_ % (65536 : Int32))), .val (.int (p1_ &&& (65535 : Int32))), .val (.int (p2_ &&& (1048575 : Int32))), .val (.int (p3_ &&& (1023 : Int32))), .val (.int ((p4_ &&& (2147483647 : Int32)) % (9 : Int32))), .val (.int (p5_ &&& (7 : Int32))), .val (.long ((1 : Int64) <<< ((p5_ &&& (7 : Int32)) &&& 0x3f).toInt64)), .second, .val (.long (((((p1_ &&& (65535 : Int32)).toInt64) * (32 : Int64)) * ((1 : Int64) <<< ((p5_ &&& (7 : Int32)) &&& 0x3f).toInt64)) + (((p3_ &&& (1023 : Int32)).toInt64) * (((((8 : Int32) - ((p4_ &&& (2147483647 : Int32)) % (9 : Int32))).toInt64) * ((1 : Int64) <<< ((p5_ &&& (7 : Int32)) &&& 0x3f).toInt64)) + ((((p4_ &&& (2147483647 : Int32)) % (9 : Int32)).toInt64) * ((p2_ &&& (1048575 : Int32)).toInt64)))))), .second, .unset, .unset, .unset, .unset, .unset] [(.long (((p0_ % (65536 : Int32)).toInt64) * ((p1_ &&& (65535 : Int32)).toInt64)))])) _
      refine XS.iload X0.here hx rfl (hb hby at_98) rfl ?_
      show Steps p.tables e below (s₁.setTop (mkF m 100 #[.val (.int p0_), .val (.int p1_), .val (.int p2_), .val (.int p3_), .val (.int p4_), .val (.int p5_), .val (.int (p0_ % (65536 : Int32))), .val (.int (p1_ &&& (65535 : Int32))), .val (.int (p2_ &&& (1048575 : Int32))), .val (.int (p3_ &&& (1023 : Int32))), .val (.int ((p4_ &&& (2147483647 : Int32)) % (9 : Int32))), .val (.int (p5_ &&& (7 : Int32))), .val (.long ((1 : Int64) <<< ((p5_ &&& (7 : Int32)) &&& 0x3f).toInt64)), .second, .val (.long (((((p1_ &&& (65535 : Int32)).toInt64) * (32 : Int64)) * ((1 : Int64) <<< ((p5_ &&& (7 : Int32)) &&& 0x3f).toInt64)) + (((p3_ &&& (1023 : Int32)).toInt64) * (((((8 : Int32) - ((p4_ &&& (2147483647 : Int32)) % (9 : Int32))).toInt64) * ((1 : Int64) <<< ((p5_ &&& (7 : Int32)) &&& 0x3f).toInt64)) + ((((p4_ &&& (2147483647 : Int32)) % (9 : Int32)).toInt64) * ((p2_ &&& (1048575 : Int32)).toInt64)))))), .second, .unset, .unset, .unset, .unset, .unset] [(.int (p3_ &&& (1023 : Int32))), (.long (((p0_ % (65536 : Int32)).toInt64) * ((p1_ &&& (65535 : Int32)).toInt64)))])) _
      refine XS.iconst X0.here hx rfl (hb hby at_100) ?_
      show Steps p.tables e below (s₁.setTop (mkF m 101 #[.val (.int p0_), .val (.int p1_), .val (.int p2_), .val (.int p3_), .val (.int p4_), .val (.int p5_), .val (.int (p0_ % (65536 : Int32))), .val (.int (p1_ &&& (65535 : Int32))), .val (.int (p2_ &&& (1048575 : Int32))), .val (.int (p3_ &&& (1023 : Int32))), .val (.int ((p4_ &&& (2147483647 : Int32)) % (9 : Int32))), .val (.int (p5_ &&& (7 : Int32))), .val (.long ((1 : Int64) <<< ((p5_ &&& (7 : Int32)) &&& 0x3f).toInt64)), .second, .val (.long (((((p1_ &&& (65535 : Int32)).toInt64) * (32 : Int64)) * ((1 : Int64) <<< ((p5_ &&& (7 : Int32)) &&& 0x3f).toInt64)) + (((p3_ &&& (1023 : Int32)).toInt64) * (((((8 : Int32) - ((p4_ &&& (2147483647 : Int32)) % (9 : Int32))).toInt64) * ((1 : Int64) <<< ((p5_ &&& (7 : Int32)) &&& 0x3f).toInt64)) + ((((p4_ &&& (2147483647 : Int32)) % (9 : Int32)).toInt64) * ((p2_ &&& (1048575 : Int32)).toInt64)))))), .second, .unset, .unset, .unset, .unset, .unset] [(.int (4 : Int32)), (.int (p3_ &&& (1023 : Int32))), (.long (((p0_ % (65536 : Int32)).toInt64) * ((p1_ &&& (65535 : Int32)).toInt64)))])) _
      refine XS.iadd X0.here hx rfl (hb hby at_101) rfl ?_
      show Steps p.tables e below (s₁.setTop (mkF m 102 #[.val (.int p0_), .val (.int p1_), .val (.int p2_), .val (.int p3_), .val (.int p4_), .val (.int p5_), .val (.int (p0_ % (65536 : Int32))), .val (.int (p1_ &&& (65535 : Int32))), .val (.int (p2_ &&& (1048575 : Int32))), .val (.int (p3_ &&& (1023 : Int32))), .val (.int ((p4_ &&& (2147483647 : Int32)) % (9 : Int32))), .val (.int (p5_ &&& (7 : Int32))), .val (.long ((1 : Int64) <<< ((p5_ &&& (7 : Int32)) &&& 0x3f).toInt64)), .second, .val (.long (((((p1_ &&& (65535 : Int32)).toInt64) * (32 : Int64)) * ((1 : Int64) <<< ((p5_ &&& (7 : Int32)) &&& 0x3f).toInt64)) + (((p3_ &&& (1023 : Int32)).toInt64) * (((((8 : Int32) - ((p4_ &&& (2147483647 : Int32)) % (9 : Int32))).toInt64) * ((1 : Int64) <<< ((p5_ &&& (7 : Int32)) &&& 0x3f).toInt64)) + ((((p4_ &&& (2147483647 : Int32)) % (9 : Int32)).toInt64) * ((p2_ &&& (1048575 : Int32)).toInt64)))))), .second, .unset, .unset, .unset, .unset, .unset] [(.int ((p3_ &&& (1023 : Int32)) + (4 : Int32))), (.long (((p0_ % (65536 : Int32)).toInt64) * ((p1_ &&& (65535 : Int32)).toInt64)))])) _
      refine XS.i2l X0.here hx rfl (hb hby at_102) rfl ?_
      show Steps p.tables e below (s₁.setTop (mkF m 103 #[.val (.int p0_), .val (.int p1_), .val (.int p2_), .val (.int p3_), .val (.int p4_), .val (.int p5_), .val (.int (p0_ % (65536 : Int32))), .val (.int (p1_ &&& (65535 : Int32))), .val (.int (p2_ &&& (1048575 : Int32))), .val (.int (p3_ &&& (1023 : Int32))), .val (.int ((p4_ &&& (2147483647 : Int32)) % (9 : Int32))), .val (.int (p5_ &&& (7 : Int32))), .val (.long ((1 : Int64) <<< ((p5_ &&& (7 : Int32)) &&& 0x3f).toInt64)), .second, .val (.long (((((p1_ &&& (65535 : Int32)).toInt64) * (32 : Int64)) * ((1 : Int64) <<< ((p5_ &&& (7 : Int32)) &&& 0x3f).toInt64)) + (((p3_ &&& (1023 : Int32)).toInt64) * (((((8 : Int32) - ((p4_ &&& (2147483647 : Int32)) % (9 : Int32))).toInt64) * ((1 : Int64) <<< ((p5_ &&& (7 : Int32)) &&& 0x3f).toInt64)) + ((((p4_ &&& (2147483647 : Int32)) % (9 : Int32)).toInt64) * ((p2_ &&& (1048575 : Int32)).toInt64)))))), .second, .unset, .unset, .unset, .unset, .unset] [(.long (((p3_ &&& (1023 : Int32)) + (4 : Int32)).toInt64)), (.long (((p0_ % (65536 : Int32)).toInt64) * ((p1_ &&& (65535 : Int32)).toInt64)))])) _
      refine XS.lmul X0.here hx rfl (hb hby at_103) rfl ?_
      show Steps p.tables e below (s₁.setTop (mkF m 104 #[.val (.int p0_), .val (.int p1_), .val (.int p2_), .val (.int p3_), .val (.int p4_), .val (.int p5_), .val (.int (p0_ % (65536 : Int32))), .val (.int (p1_ &&& (65535 : Int32))), .val (.int (p2_ &&& (1048575 : Int32))), .val (.int (p3_ &&& (1023 : Int32))), .val (.int ((p4_ &&& (2147483647 : Int32)) % (9 : Int32))), .val (.int (p5_ &&& (7 : Int32))), .val (.long ((1 : Int64) <<< ((p5_ &&& (7 : Int32)) &&& 0x3f).toInt64)), .second, .val (.long (((((p1_ &&& (65535 : Int32)).toInt64) * (32 : Int64)) * ((1 : Int64) <<< ((p5_ &&& (7 : Int32)) &&& 0x3f).toInt64)) + (((p3_ &&& (1023 : Int32)).toInt64) * (((((8 : Int32) - ((p4_ &&& (2147483647 : Int32)) % (9 : Int32))).toInt64) * ((1 : Int64) <<< ((p5_ &&& (7 : Int32)) &&& 0x3f).toInt64)) + ((((p4_ &&& (2147483647 : Int32)) % (9 : Int32)).toInt64) * ((p2_ &&& (1048575 : Int32)).toInt64)))))), .second, .unset, .unset, .unset, .unset, .unset] [(.long ((((p0_ % (65536 : Int32)).toInt64) * ((p1_ &&& (65535 : Int32)).toInt64)) * (((p3_ &&& (1023 : Int32)) + (4 : Int32)).toInt64)))])) _
      refine X0.ldc2Long hx hown (mvT hZ (hw _ (List.mem_of_getElem? (i := 5) rfl))) (g := (mkF m 104 #[.val (.int p0_), .val (.int p1_), .val (.int p2_), .val (.int p3_), .val (.int p4_), .val (.int p5_), .val (.int (p0_ % (65536 : Int32))), .val (.int (p1_ &&& (65535 : Int32))), .val (.int (p2_ &&& (1048575 : Int32))), .val (.int (p3_ &&& (1023 : Int32))), .val (.int ((p4_ &&& (2147483647 : Int32)) % (9 : Int32))), .val (.int (p5_ &&& (7 : Int32))), .val (.long ((1 : Int64) <<< ((p5_ &&& (7 : Int32)) &&& 0x3f).toInt64)), .second, .val (.long (((((p1_ &&& (65535 : Int32)).toInt64) * (32 : Int64)) * ((1 : Int64) <<< ((p5_ &&& (7 : Int32)) &&& 0x3f).toInt64)) + (((p3_ &&& (1023 : Int32)).toInt64) * (((((8 : Int32) - ((p4_ &&& (2147483647 : Int32)) % (9 : Int32))).toInt64) * ((1 : Int64) <<< ((p5_ &&& (7 : Int32)) &&& 0x3f).toInt64)) + ((((p4_ &&& (2147483647 : Int32)) % (9 : Int32)).toInt64) * ((p2_ &&& (1048575 : Int32)).toInt64)))))), .second, .unset, .unset, .unset, .unset, .unset] [(.long ((((p0_ % (65536 : Int32)).toInt64) * ((p1_ &&& (65535 : Int32)).toInt64)) * (((p3_ &&& (1023 : Int32)) + (4 : Int32)).toInt64)))])) rfl (hb hby at_104) _ ?_
      show Steps p.tables e below (s₁.setTop (mkF m 107 #[.val (.int p0_), .val (.int p1_), .val (.int p2_), .val (.int p3_), .val (.int p4_), .val (.int p5_), .val (.int (p0_ % (65536 : Int32))), .val (.int (p1_ &&& (65535 : Int32))), .val (.int (p2_ &&& (1048575 : Int32))), .val (.int (p3_ &&& (1023 : Int32))), .val (.int ((p4_ &&& (2147483647 : Int32)) % (9 : Int32))), .val (.int (p5_ &&& (7 : Int32))), .val (.long ((1 : Int64) <<< ((p5_ &&& (7 : Int32)) &&& 0x3f).toInt64)), .second, .val (.long (((((p1_ &&& (65535 : Int32)).toInt64) * (32 : Int64)) * ((1 : Int64) <<< ((p5_ &&& (7 : Int32)) &&& 0x3f).toInt64)) + (((p3_ &&& (1023 : Int32)).toInt64) * (((((8 : Int32) - ((p4_ &&& (2147483647 : Int32)) % (9 : Int32))).toInt64) * ((1 : Int64) <<< ((p5_ &&& (7 : Int32)) &&& 0x3f).toInt64)) + ((((p4_ &&& (2147483647 : Int32)) % (9 : Int32)).toInt64) * ((p2_ &&& (1048575 : Int32)).toInt64)))))), .second, .unset, .unset, .unset, .unset, .unset] [(.long (8 : Int64)), (.long ((((p0_ % (65536 : Int32)).toInt64) * ((p1_ &&& (65535 : Int32)).toInt64)) * (((p3_ &&& (1023 : Int32)) + (4 : Int32)).toInt64)))])) _
      refine XS.lmul X0.here hx rfl (hb hby at_107) rfl ?_
      show Steps p.tables e below (s₁.setTop (mkF m 108 #[.val (.int p0_), .val (.int p1_), .val (.int p2_), .val (.int p3_), .val (.int p4_), .val (.int p5_), .val (.int (p0_ % (65536 : Int32))), .val (.int (p1_ &&& (65535 : Int32))), .val (.int (p2_ &&& (1048575 : Int32))), .val (.int (p3_ &&& (1023 : Int32))), .val (.int ((p4_ &&& (2147483647 : Int32)) % (9 : Int32))), .val (.int (p5_ &&& (7 : Int32))), .val (.long ((1 : Int64) <<< ((p5_ &&& (7 : Int32)) &&& 0x3f).toInt64)), .second, .val (.long (((((p1_ &&& (65535 : Int32)).toInt64) * (32 : Int64)) * ((1 : Int64) <<< ((p5_ &&& (7 : Int32)) &&& 0x3f).toInt64)) + (((p3_ &&& (1023 : Int32)).toInt64) * (((((8 : Int32) - ((p4_ &&& (2147483647 : Int32)) % (9 : Int32))).toInt64) * ((1 : Int64) <<< ((p5_ &&& (7 : Int32)) &&& 0x3f).toInt64)) + ((((p4_ &&& (2147483647 : Int32)) % (9 : Int32)).toInt64) * ((p2_ &&& (1048575 : Int32)).toInt64)))))), .second, .unset, .unset, .unset, .unset, .unset] [(.long (((((p0_ % (65536 : Int32)).toInt64) * ((p1_ &&& (65535 : Int32)).toInt64)) * (((p3_ &&& (1023 : Int32)) + (4 : Int32)).toInt64)) * (8 : Int64)))])) _
      refine XS.lload X0.here hx rfl (hb hby at_108) rfl ?_
      show Steps p.tables e below (s₁.setTop (mkF m 110 #[.val (.int p0_), .val (.int p1_), .val (.int p2_), .val (.int p3_), .val (.int p4_), .val (.int p5_), .val (.int (p0_ % (65536 : Int32))), .val (.int (p1_ &&& (65535 : Int32))), .val (.int (p2_ &&& (1048575 : Int32))), .val (.int (p3_ &&& (1023 : Int32))), .val (.int ((p4_ &&& (2147483647 : Int32)) % (9 : Int32))), .val (.int (p5_ &&& (7 : Int32))), .val (.long ((1 : Int64) <<< ((p5_ &&& (7 : Int32)) &&& 0x3f).toInt64)), .second, .val (.long (((((p1_ &&& (65535 : Int32)).toInt64) * (32 : Int64)) * ((1 : Int64) <<< ((p5_ &&& (7 : Int32)) &&& 0x3f).toInt64)) + (((p3_ &&& (1023 : Int32)).toInt64) * (((((8 : Int32) - ((p4_ &&& (2147483647 : Int32)) % (9 : Int32))).toInt64) * ((1 : Int64) <<< ((p5_ &&& (7 : Int32)) &&& 0x3f).toInt64)) + ((((p4_ &&& (2147483647 : Int32)) % (9 : Int32)).toInt64) * ((p2_ &&& (1048575 : Int32)).toInt64)))))), .second, .unset, .unset, .unset, .unset, .unset] [(.long ((1 : Int64) <<< ((p5_ &&& (7 : Int32)) &&& 0x3f).toInt64)), (.long (((((p0_ % (65536 : Int32)).toInt64) * ((p1_ &&& (65535 : Int32)).toInt64)) * (((p3_ &&& (1023 : Int32)) + (4 : Int32)).toInt64)) * (8 : Int64)))])) _
      refine XS.lmul X0.here hx rfl (hb hby at_110) rfl ?_
      show Steps p.tables e below (s₁.setTop (mkF m 111 #[.val (.int p0_), .val (.int p1_), .val (.int p2_), .val (.int p3_), .val (.int p4_), .val (.int p5_), .val (.int (p0_ % (65536 : Int32))), .val (.int (p1_ &&& (65535 : Int32))), .val (.int (p2_ &&& (1048575 : Int32))), .val (.int (p3_ &&& (1023 : Int32))), .val (.int ((p4_ &&& (2147483647 : Int32)) % (9 : Int32))), .val (.int (p5_ &&& (7 : Int32))), .val (.long ((1 : Int64) <<< ((p5_ &&& (7 : Int32)) &&& 0x3f).toInt64)), .second, .val (.long (((((p1_ &&& (65535 : Int32)).toInt64) * (32 : Int64)) * ((1 : Int64) <<< ((p5_ &&& (7 : Int32)) &&& 0x3f).toInt64)) + (((p3_ &&& (1023 : Int32)).toInt64) * (((((8 : Int32) - ((p4_ &&& (2147483647 : Int32)) % (9 : Int32))).toInt64) * ((1 : Int64) <<< ((p5_ &&& (7 : Int32)) &&& 0x3f).toInt64)) + ((((p4_ &&& (2147483647 : Int32)) % (9 : Int32)).toInt64) * ((p2_ &&& (1048575 : Int32)).toInt64)))))), .second, .unset, .unset, .unset, .unset, .unset] [(.long ((((((p0_ % (65536 : Int32)).toInt64) * ((p1_ &&& (65535 : Int32)).toInt64)) * (((p3_ &&& (1023 : Int32)) + (4 : Int32)).toInt64)) * (8 : Int64)) * ((1 : Int64) <<< ((p5_ &&& (7 : Int32)) &&& 0x3f).toInt64)))])) _
      refine XS.lstore X0.here hx rfl (hb hby at_111) rfl (l' := #[.val (.int p0_), .val (.int p1_), .val (.int p2_), .val (.int p3_), .val (.int p4_), .val (.int p5_), .val (.int (p0_ % (65536 : Int32))), .val (.int (p1_ &&& (65535 : Int32))), .val (.int (p2_ &&& (1048575 : Int32))), .val (.int (p3_ &&& (1023 : Int32))), .val (.int ((p4_ &&& (2147483647 : Int32)) % (9 : Int32))), .val (.int (p5_ &&& (7 : Int32))), .val (.long ((1 : Int64) <<< ((p5_ &&& (7 : Int32)) &&& 0x3f).toInt64)), .second, .val (.long (((((p1_ &&& (65535 : Int32)).toInt64) * (32 : Int64)) * ((1 : Int64) <<< ((p5_ &&& (7 : Int32)) &&& 0x3f).toInt64)) + (((p3_ &&& (1023 : Int32)).toInt64) * (((((8 : Int32) - ((p4_ &&& (2147483647 : Int32)) % (9 : Int32))).toInt64) * ((1 : Int64) <<< ((p5_ &&& (7 : Int32)) &&& 0x3f).toInt64)) + ((((p4_ &&& (2147483647 : Int32)) % (9 : Int32)).toInt64) * ((p2_ &&& (1048575 : Int32)).toInt64)))))), .second, .val (.long ((((((p0_ % (65536 : Int32)).toInt64) * ((p1_ &&& (65535 : Int32)).toInt64)) * (((p3_ &&& (1023 : Int32)) + (4 : Int32)).toInt64)) * (8 : Int64)) * ((1 : Int64) <<< ((p5_ &&& (7 : Int32)) &&& 0x3f).toInt64))), .second, .unset, .unset, .unset]) rfl ?_
      show Steps p.tables e below (s₁.setTop (mkF m 113 #[.val (.int p0_), .val (.int p1_), .val (.int p2_), .val (.int p3_), .val (.int p4_), .val (.int p5_), .val (.int (p0_ % (65536 : Int32))), .val (.int (p1_ &&& (65535 : Int32))), .val (.int (p2_ &&& (1048575 : Int32))), .val (.int (p3_ &&& (1023 : Int32))), .val (.int ((p4_ &&& (2147483647 : Int32)) % (9 : Int32))), .val (.int (p5_ &&& (7 : Int32))), .val (.long ((1 : Int64) <<< ((p5_ &&& (7 : Int32)) &&& 0x3f).toInt64)), .second, .val (.long (((((p1_ &&& (65535 : Int32)).toInt64) * (32 : Int64)) * ((1 : Int64) <<< ((p5_ &&& (7 : Int32)) &&& 0x3f).toInt64)) + (((p3_ &&& (1023 : Int32)).toInt64) * (((((8 : Int32) - ((p4_ &&& (2147483647 : Int32)) % (9 : Int32))).toInt64) * ((1 : Int64) <<< ((p5_ &&& (7 : Int32)) &&& 0x3f).toInt64)) + ((((p4_ &&& (2147483647 : Int32)) % (9 : Int32)).toInt64) * ((p2_ &&& (1048575 : Int32)).toInt64)))))), .second, .val (.long ((((((p0_ % (65536 : Int32)).toInt64) * ((p1_ &&& (65535 : Int32)).toInt64)) * (((p3_ &&& (1023 : Int32)) + (4 : Int32)).toInt64)) * (8 : Int64)) * ((1 : Int64) <<< ((p5_ &&& (7 : Int32)) &&& 0x3f).toInt64))), .second, .unset, .unset, .unset] [])) _
      refine st7 _ ?_
      show Steps p.tables e below (T7.setTop (mkF m 116 #[.val (.int p0_), .val (.int p1_), .val (.int p2_), .val (.int p3_), .val (.int p4_), .val (.int p5_), .val (.int (p0_ % (65536 : Int32))), .val (.int (p1_ &&& (65535 : Int32))), .val (.int (p2_ &&& (1048575 : Int32))), .val (.int (p3_ &&& (1023 : Int32))), .val (.int ((p4_ &&& (2147483647 : Int32)) % (9 : Int32))), .val (.int (p5_ &&& (7 : Int32))), .val (.long ((1 : Int64) <<< ((p5_ &&& (7 : Int32)) &&& 0x3f).toInt64)), .second, .val (.long (((((p1_ &&& (65535 : Int32)).toInt64) * (32 : Int64)) * ((1 : Int64) <<< ((p5_ &&& (7 : Int32)) &&& 0x3f).toInt64)) + (((p3_ &&& (1023 : Int32)).toInt64) * (((((8 : Int32) - ((p4_ &&& (2147483647 : Int32)) % (9 : Int32))).toInt64) * ((1 : Int64) <<< ((p5_ &&& (7 : Int32)) &&& 0x3f).toInt64)) + ((((p4_ &&& (2147483647 : Int32)) % (9 : Int32)).toInt64) * ((p2_ &&& (1048575 : Int32)).toInt64)))))), .second, .val (.long ((((((p0_ % (65536 : Int32)).toInt64) * ((p1_ &&& (65535 : Int32)).toInt64)) * (((p3_ &&& (1023 : Int32)) + (4 : Int32)).toInt64)) * (8 : Int64)) * ((1 : Int64) <<< ((p5_ &&& (7 : Int32)) &&& 0x3f).toInt64))), .second, .unset, .unset, .unset] [(.ref b7)])) _
      refine XS.dup X7.here hx rfl (hb hby at_116) rfl rfl ?_
      show Steps p.tables e below (T7.setTop (mkF m 117 #[.val (.int p0_), .val (.int p1_), .val (.int p2_), .val (.int p3_), .val (.int p4_), .val (.int p5_), .val (.int (p0_ % (65536 : Int32))), .val (.int (p1_ &&& (65535 : Int32))), .val (.int (p2_ &&& (1048575 : Int32))), .val (.int (p3_ &&& (1023 : Int32))), .val (.int ((p4_ &&& (2147483647 : Int32)) % (9 : Int32))), .val (.int (p5_ &&& (7 : Int32))), .val (.long ((1 : Int64) <<< ((p5_ &&& (7 : Int32)) &&& 0x3f).toInt64)), .second, .val (.long (((((p1_ &&& (65535 : Int32)).toInt64) * (32 : Int64)) * ((1 : Int64) <<< ((p5_ &&& (7 : Int32)) &&& 0x3f).toInt64)) + (((p3_ &&& (1023 : Int32)).toInt64) * (((((8 : Int32) - ((p4_ &&& (2147483647 : Int32)) % (9 : Int32))).toInt64) * ((1 : Int64) <<< ((p5_ &&& (7 : Int32)) &&& 0x3f).toInt64)) + ((((p4_ &&& (2147483647 : Int32)) % (9 : Int32)).toInt64) * ((p2_ &&& (1048575 : Int32)).toInt64)))))), .second, .val (.long ((((((p0_ % (65536 : Int32)).toInt64) * ((p1_ &&& (65535 : Int32)).toInt64)) * (((p3_ &&& (1023 : Int32)) + (4 : Int32)).toInt64)) * (8 : Int64)) * ((1 : Int64) <<< ((p5_ &&& (7 : Int32)) &&& 0x3f).toInt64))), .second, .unset, .unset, .unset] [(.ref b7), (.ref b7)])) _
      refine XS.iload X7.here hx rfl (hb hby at_117) rfl ?_
      show Steps p.tables e below (T7.setTop (mkF m 119 #[.val (.int p0_), .val (.int p1_), .val (.int p2_), .val (.int p3_), .val (.int p4_), .val (.int p5_), .val (.int (p0_ % (65536 : Int32))), .val (.int (p1_ &&& (65535 : Int32))), .val (.int (p2_ &&& (1048575 : Int32))), .val (.int (p3_ &&& (1023 : Int32))), .val (.int ((p4_ &&& (2147483647 : Int32)) % (9 : Int32))), .val (.int (p5_ &&& (7 : Int32))), .val (.long ((1 : Int64) <<< ((p5_ &&& (7 : Int32)) &&& 0x3f).toInt64)), .second, .val (.long (((((p1_ &&& (65535 : Int32)).toInt64) * (32 : Int64)) * ((1 : Int64) <<< ((p5_ &&& (7 : Int32)) &&& 0x3f).toInt64)) + (((p3_ &&& (1023 : Int32)).toInt64) * (((((8 : Int32) - ((p4_ &&& (2147483647 : Int32)) % (9 : Int32))).toInt64) * ((1 : Int64) <<< ((p5_ &&& (7 : Int32)) &&& 0x3f).toInt64)) + ((((p4_ &&& (2147483647 : Int32)) % (9 : Int32)).toInt64) * ((p2_ &&& (1048575 : Int32)).toInt64)))))), .second, .val (.long ((((((p0_ % (65536 : Int32)).toInt64) * ((p1_ &&& (65535 : Int32)).toInt64)) * (((p3_ &&& (1023 : Int32)) + (4 : Int32)).toInt64)) * (8 : Int64)) * ((1 : Int64) <<< ((p5_ &&& (7 : Int32)) &&& 0x3f).toInt64))), .second, .unset, .unset, .unset] [(.int (p3_ &&& (1023 : Int32))), (.ref b7), (.ref b7)])) _
      refine XS.i2dS X7.here hx rfl (hb hby at_119) rfl rfl ?_
      show Steps p.tables e below (T7.setTop (mkF m 120 #[.val (.int p0_), .val (.int p1_), .val (.int p2_), .val (.int p3_), .val (.int p4_), .val (.int p5_), .val (.int (p0_ % (65536 : Int32))), .val (.int (p1_ &&& (65535 : Int32))), .val (.int (p2_ &&& (1048575 : Int32))), .val (.int (p3_ &&& (1023 : Int32))), .val (.int ((p4_ &&& (2147483647 : Int32)) % (9 : Int32))), .val (.int (p5_ &&& (7 : Int32))), .val (.long ((1 : Int64) <<< ((p5_ &&& (7 : Int32)) &&& 0x3f).toInt64)), .second, .val (.long (((((p1_ &&& (65535 : Int32)).toInt64) * (32 : Int64)) * ((1 : Int64) <<< ((p5_ &&& (7 : Int32)) &&& 0x3f).toInt64)) + (((p3_ &&& (1023 : Int32)).toInt64) * (((((8 : Int32) - ((p4_ &&& (2147483647 : Int32)) % (9 : Int32))).toInt64) * ((1 : Int64) <<< ((p5_ &&& (7 : Int32)) &&& 0x3f).toInt64)) + ((((p4_ &&& (2147483647 : Int32)) % (9 : Int32)).toInt64) * ((p2_ &&& (1048575 : Int32)).toInt64)))))), .second, .val (.long ((((((p0_ % (65536 : Int32)).toInt64) * ((p1_ &&& (65535 : Int32)).toInt64)) * (((p3_ &&& (1023 : Int32)) + (4 : Int32)).toInt64)) * (8 : Int64)) * ((1 : Int64) <<< ((p5_ &&& (7 : Int32)) &&& 0x3f).toInt64))), .second, .unset, .unset, .unset] [(.double (FP.i2d (p3_ &&& (1023 : Int32)))), (.ref b7), (.ref b7)])) _
      refine X7.ldc2DoubleC hx hown (mvT hZ (hw _ (List.mem_of_getElem? (i := 9) rfl))) (g := (mkF m 120 #[.val (.int p0_), .val (.int p1_), .val (.int p2_), .val (.int p3_), .val (.int p4_), .val (.int p5_), .val (.int (p0_ % (65536 : Int32))), .val (.int (p1_ &&& (65535 : Int32))), .val (.int (p2_ &&& (1048575 : Int32))), .val (.int (p3_ &&& (1023 : Int32))), .val (.int ((p4_ &&& (2147483647 : Int32)) % (9 : Int32))), .val (.int (p5_ &&& (7 : Int32))), .val (.long ((1 : Int64) <<< ((p5_ &&& (7 : Int32)) &&& 0x3f).toInt64)), .second, .val (.long (((((p1_ &&& (65535 : Int32)).toInt64) * (32 : Int64)) * ((1 : Int64) <<< ((p5_ &&& (7 : Int32)) &&& 0x3f).toInt64)) + (((p3_ &&& (1023 : Int32)).toInt64) * (((((8 : Int32) - ((p4_ &&& (2147483647 : Int32)) % (9 : Int32))).toInt64) * ((1 : Int64) <<< ((p5_ &&& (7 : Int32)) &&& 0x3f).toInt64)) + ((((p4_ &&& (2147483647 : Int32)) % (9 : Int32)).toInt64) * ((p2_ &&& (1048575 : Int32)).toInt64)))))), .second, .val (.long ((((((p0_ % (65536 : Int32)).toInt64) * ((p1_ &&& (65535 : Int32)).toInt64)) * (((p3_ &&& (1023 : Int32)) + (4 : Int32)).toInt64)) * (8 : Int64)) * ((1 : Int64) <<< ((p5_ &&& (7 : Int32)) &&& 0x3f).toInt64))), .second, .unset, .unset, .unset] [(.double (FP.i2d (p3_ &&& (1023 : Int32)))), (.ref b7), (.ref b7)])) rfl (hb hby at_120) _ ?_
      show Steps p.tables e below (T7.setTop (mkF m 123 #[.val (.int p0_), .val (.int p1_), .val (.int p2_), .val (.int p3_), .val (.int p4_), .val (.int p5_), .val (.int (p0_ % (65536 : Int32))), .val (.int (p1_ &&& (65535 : Int32))), .val (.int (p2_ &&& (1048575 : Int32))), .val (.int (p3_ &&& (1023 : Int32))), .val (.int ((p4_ &&& (2147483647 : Int32)) % (9 : Int32))), .val (.int (p5_ &&& (7 : Int32))), .val (.long ((1 : Int64) <<< ((p5_ &&& (7 : Int32)) &&& 0x3f).toInt64)), .second, .val (.long (((((p1_ &&& (65535 : Int32)).toInt64) * (32 : Int64)) * ((1 : Int64) <<< ((p5_ &&& (7 : Int32)) &&& 0x3f).toInt64)) + (((p3_ &&& (1023 : Int32)).toInt64) * (((((8 : Int32) - ((p4_ &&& (2147483647 : Int32)) % (9 : Int32))).toInt64) * ((1 : Int64) <<< ((p5_ &&& (7 : Int32)) &&& 0x3f).toInt64)) + ((((p4_ &&& (2147483647 : Int32)) % (9 : Int32)).toInt64) * ((p2_ &&& (1048575 : Int32)).toInt64)))))), .second, .val (.long ((((((p0_ % (65536 : Int32)).toInt64) * ((p1_ &&& (65535 : Int32)).toInt64)) * (((p3_ &&& (1023 : Int32)) + (4 : Int32)).toInt64)) * (8 : Int64)) * ((1 : Int64) <<< ((p5_ &&& (7 : Int32)) &&& 0x3f).toInt64))), .second, .unset, .unset, .unset] [(.double (4616189618054758400 : UInt64)), (.double (FP.i2d (p3_ &&& (1023 : Int32)))), (.ref b7), (.ref b7)])) _
      refine XS.ddivS X7.here hx rfl (hb hby at_123) rfl hn5 rfl ?_
      show Steps p.tables e below (T7.setTop (mkF m 124 #[.val (.int p0_), .val (.int p1_), .val (.int p2_), .val (.int p3_), .val (.int p4_), .val (.int p5_), .val (.int (p0_ % (65536 : Int32))), .val (.int (p1_ &&& (65535 : Int32))), .val (.int (p2_ &&& (1048575 : Int32))), .val (.int (p3_ &&& (1023 : Int32))), .val (.int ((p4_ &&& (2147483647 : Int32)) % (9 : Int32))), .val (.int (p5_ &&& (7 : Int32))), .val (.long ((1 : Int64) <<< ((p5_ &&& (7 : Int32)) &&& 0x3f).toInt64)), .second, .val (.long (((((p1_ &&& (65535 : Int32)).toInt64) * (32 : Int64)) * ((1 : Int64) <<< ((p5_ &&& (7 : Int32)) &&& 0x3f).toInt64)) + (((p3_ &&& (1023 : Int32)).toInt64) * (((((8 : Int32) - ((p4_ &&& (2147483647 : Int32)) % (9 : Int32))).toInt64) * ((1 : Int64) <<< ((p5_ &&& (7 : Int32)) &&& 0x3f).toInt64)) + ((((p4_ &&& (2147483647 : Int32)) % (9 : Int32)).toInt64) * ((p2_ &&& (1048575 : Int32)).toInt64)))))), .second, .val (.long ((((((p0_ % (65536 : Int32)).toInt64) * ((p1_ &&& (65535 : Int32)).toInt64)) * (((p3_ &&& (1023 : Int32)) + (4 : Int32)).toInt64)) * (8 : Int64)) * ((1 : Int64) <<< ((p5_ &&& (7 : Int32)) &&& 0x3f).toInt64))), .second, .unset, .unset, .unset] [(.double (FP.ddiv (FP.i2d (p3_ &&& (1023 : Int32))) (4616189618054758400 : UInt64))), (.ref b7), (.ref b7)])) _
      refine XS.iload X7.here hx rfl (hb hby at_124) rfl ?_
      show Steps p.tables e below (T7.setTop (mkF m 126 #[.val (.int p0_), .val (.int p1_), .val (.int p2_), .val (.int p3_), .val (.int p4_), .val (.int p5_), .val (.int (p0_ % (65536 : Int32))), .val (.int (p1_ &&& (65535 : Int32))), .val (.int (p2_ &&& (1048575 : Int32))), .val (.int (p3_ &&& (1023 : Int32))), .val (.int ((p4_ &&& (2147483647 : Int32)) % (9 : Int32))), .val (.int (p5_ &&& (7 : Int32))), .val (.long ((1 : Int64) <<< ((p5_ &&& (7 : Int32)) &&& 0x3f).toInt64)), .second, .val (.long (((((p1_ &&& (65535 : Int32)).toInt64) * (32 : Int64)) * ((1 : Int64) <<< ((p5_ &&& (7 : Int32)) &&& 0x3f).toInt64)) + (((p3_ &&& (1023 : Int32)).toInt64) * (((((8 : Int32) - ((p4_ &&& (2147483647 : Int32)) % (9 : Int32))).toInt64) * ((1 : Int64) <<< ((p5_ &&& (7 : Int32)) &&& 0x3f).toInt64)) + ((((p4_ &&& (2147483647 : Int32)) % (9 : Int32)).toInt64) * ((p2_ &&& (1048575 : Int32)).toInt64)))))), .second, .val (.long ((((((p0_ % (65536 : Int32)).toInt64) * ((p1_ &&& (65535 : Int32)).toInt64)) * (((p3_ &&& (1023 : Int32)) + (4 : Int32)).toInt64)) * (8 : Int64)) * ((1 : Int64) <<< ((p5_ &&& (7 : Int32)) &&& 0x3f).toInt64))), .second, .unset, .unset, .unset] [(.int ((p4_ &&& (2147483647 : Int32)) % (9 : Int32))), (.double (FP.ddiv (FP.i2d (p3_ &&& (1023 : Int32))) (4616189618054758400 : UInt64))), (.ref b7), (.ref b7)])) _
      refine XS.i2dS X7.here hx rfl (hb hby at_126) rfl rfl ?_
      show Steps p.tables e below (T7.setTop (mkF m 127 #[.val (.int p0_), .val (.int p1_), .val (.int p2_), .val (.int p3_), .val (.int p4_), .val (.int p5_), .val (.int (p0_ % (65536 : Int32))), .val (.int (p1_ &&& (65535 : Int32))), .val (.int (p2_ &&& (1048575 : Int32))), .val (.int (p3_ &&& (1023 : Int32))), .val (.int ((p4_ &&& (2147483647 : Int32)) % (9 : Int32))), .val (.int (p5_ &&& (7 : Int32))), .val (.long ((1 : Int64) <<< ((p5_ &&& (7 : Int32)) &&& 0x3f).toInt64)), .second, .val (.long (((((p1_ &&& (65535 : Int32)).toInt64) * (32 : Int64)) * ((1 : Int64) <<< ((p5_ &&& (7 : Int32)) &&& 0x3f).toInt64)) + (((p3_ &&& (1023 : Int32)).toInt64) * (((((8 : Int32) - ((p4_ &&& (2147483647 : Int32)) % (9 : Int32))).toInt64) * ((1 : Int64) <<< ((p5_ &&& (7 : Int32)) &&& 0x3f).toInt64)) + ((((p4_ &&& (2147483647 : Int32)) % (9 : Int32)).toInt64) * ((p2_ &&& (1048575 : Int32)).toInt64)))))), .second, .val (.long ((((((p0_ % (65536 : Int32)).toInt64) * ((p1_ &&& (65535 : Int32)).toInt64)) * (((p3_ &&& (1023 : Int32)) + (4 : Int32)).toInt64)) * (8 : Int64)) * ((1 : Int64) <<< ((p5_ &&& (7 : Int32)) &&& 0x3f).toInt64))), .second, .unset, .unset, .unset] [(.double (FP.i2d ((p4_ &&& (2147483647 : Int32)) % (9 : Int32)))), (.double (FP.ddiv (FP.i2d (p3_ &&& (1023 : Int32))) (4616189618054758400 : UInt64))), (.ref b7), (.ref b7)])) _
      refine X7.ldc2DoubleC hx hown (mvT hZ (hw _ (List.mem_of_getElem? (i := 10) rfl))) (g := (mkF m 127 #[.val (.int p0_), .val (.int p1_), .val (.int p2_), .val (.int p3_), .val (.int p4_), .val (.int p5_), .val (.int (p0_ % (65536 : Int32))), .val (.int (p1_ &&& (65535 : Int32))), .val (.int (p2_ &&& (1048575 : Int32))), .val (.int (p3_ &&& (1023 : Int32))), .val (.int ((p4_ &&& (2147483647 : Int32)) % (9 : Int32))), .val (.int (p5_ &&& (7 : Int32))), .val (.long ((1 : Int64) <<< ((p5_ &&& (7 : Int32)) &&& 0x3f).toInt64)), .second, .val (.long (((((p1_ &&& (65535 : Int32)).toInt64) * (32 : Int64)) * ((1 : Int64) <<< ((p5_ &&& (7 : Int32)) &&& 0x3f).toInt64)) + (((p3_ &&& (1023 : Int32)).toInt64) * (((((8 : Int32) - ((p4_ &&& (2147483647 : Int32)) % (9 : Int32))).toInt64) * ((1 : Int64) <<< ((p5_ &&& (7 : Int32)) &&& 0x3f).toInt64)) + ((((p4_ &&& (2147483647 : Int32)) % (9 : Int32)).toInt64) * ((p2_ &&& (1048575 : Int32)).toInt64)))))), .second, .val (.long ((((((p0_ % (65536 : Int32)).toInt64) * ((p1_ &&& (65535 : Int32)).toInt64)) * (((p3_ &&& (1023 : Int32)) + (4 : Int32)).toInt64)) * (8 : Int64)) * ((1 : Int64) <<< ((p5_ &&& (7 : Int32)) &&& 0x3f).toInt64))), .second, .unset, .unset, .unset] [(.double (FP.i2d ((p4_ &&& (2147483647 : Int32)) % (9 : Int32)))), (.double (FP.ddiv (FP.i2d (p3_ &&& (1023 : Int32))) (4616189618054758400 : UInt64))), (.ref b7), (.ref b7)])) rfl (hb hby at_127) _ ?_
      show Steps p.tables e below (T7.setTop (mkF m 130 #[.val (.int p0_), .val (.int p1_), .val (.int p2_), .val (.int p3_), .val (.int p4_), .val (.int p5_), .val (.int (p0_ % (65536 : Int32))), .val (.int (p1_ &&& (65535 : Int32))), .val (.int (p2_ &&& (1048575 : Int32))), .val (.int (p3_ &&& (1023 : Int32))), .val (.int ((p4_ &&& (2147483647 : Int32)) % (9 : Int32))), .val (.int (p5_ &&& (7 : Int32))), .val (.long ((1 : Int64) <<< ((p5_ &&& (7 : Int32)) &&& 0x3f).toInt64)), .second, .val (.long (((((p1_ &&& (65535 : Int32)).toInt64) * (32 : Int64)) * ((1 : Int64) <<< ((p5_ &&& (7 : Int32)) &&& 0x3f).toInt64)) + (((p3_ &&& (1023 : Int32)).toInt64) * (((((8 : Int32) - ((p4_ &&& (2147483647 : Int32)) % (9 : Int32))).toInt64) * ((1 : Int64) <<< ((p5_ &&& (7 : Int32)) &&& 0x3f).toInt64)) + ((((p4_ &&& (2147483647 : Int32)) % (9 : Int32)).toInt64) * ((p2_ &&& (1048575 : Int32)).toInt64)))))), .second, .val (.long ((((((p0_ % (65536 : Int32)).toInt64) * ((p1_ &&& (65535 : Int32)).toInt64)) * (((p3_ &&& (1023 : Int32)) + (4 : Int32)).toInt64)) * (8 : Int64)) * ((1 : Int64) <<< ((p5_ &&& (7 : Int32)) &&& 0x3f).toInt64))), .second, .unset, .unset, .unset] [(.double (4620693217682128896 : UInt64)), (.double (FP.i2d ((p4_ &&& (2147483647 : Int32)) % (9 : Int32)))), (.double (FP.ddiv (FP.i2d (p3_ &&& (1023 : Int32))) (4616189618054758400 : UInt64))), (.ref b7), (.ref b7)])) _
      refine XS.ddivS X7.here hx rfl (hb hby at_130) rfl hn6 rfl ?_
      show Steps p.tables e below (T7.setTop (mkF m 131 #[.val (.int p0_), .val (.int p1_), .val (.int p2_), .val (.int p3_), .val (.int p4_), .val (.int p5_), .val (.int (p0_ % (65536 : Int32))), .val (.int (p1_ &&& (65535 : Int32))), .val (.int (p2_ &&& (1048575 : Int32))), .val (.int (p3_ &&& (1023 : Int32))), .val (.int ((p4_ &&& (2147483647 : Int32)) % (9 : Int32))), .val (.int (p5_ &&& (7 : Int32))), .val (.long ((1 : Int64) <<< ((p5_ &&& (7 : Int32)) &&& 0x3f).toInt64)), .second, .val (.long (((((p1_ &&& (65535 : Int32)).toInt64) * (32 : Int64)) * ((1 : Int64) <<< ((p5_ &&& (7 : Int32)) &&& 0x3f).toInt64)) + (((p3_ &&& (1023 : Int32)).toInt64) * (((((8 : Int32) - ((p4_ &&& (2147483647 : Int32)) % (9 : Int32))).toInt64) * ((1 : Int64) <<< ((p5_ &&& (7 : Int32)) &&& 0x3f).toInt64)) + ((((p4_ &&& (2147483647 : Int32)) % (9 : Int32)).toInt64) * ((p2_ &&& (1048575 : Int32)).toInt64)))))), .second, .val (.long ((((((p0_ % (65536 : Int32)).toInt64) * ((p1_ &&& (65535 : Int32)).toInt64)) * (((p3_ &&& (1023 : Int32)) + (4 : Int32)).toInt64)) * (8 : Int64)) * ((1 : Int64) <<< ((p5_ &&& (7 : Int32)) &&& 0x3f).toInt64))), .second, .unset, .unset, .unset] [(.double (FP.ddiv (FP.i2d ((p4_ &&& (2147483647 : Int32)) % (9 : Int32))) (4620693217682128896 : UInt64))), (.double (FP.ddiv (FP.i2d (p3_ &&& (1023 : Int32))) (4616189618054758400 : UInt64))), (.ref b7), (.ref b7)])) _
      refine st16.trans ?_
      show Steps p.tables e below (T16.setTop (mkF m 134 #[.val (.int p0_), .val (.int p1_), .val (.int p2_), .val (.int p3_), .val (.int p4_), .val (.int p5_), .val (.int (p0_ % (65536 : Int32))), .val (.int (p1_ &&& (65535 : Int32))), .val (.int (p2_ &&& (1048575 : Int32))), .val (.int (p3_ &&& (1023 : Int32))), .val (.int ((p4_ &&& (2147483647 : Int32)) % (9 : Int32))), .val (.int (p5_ &&& (7 : Int32))), .val (.long ((1 : Int64) <<< ((p5_ &&& (7 : Int32)) &&& 0x3f).toInt64)), .second, .val (.long (((((p1_ &&& (65535 : Int32)).toInt64) * (32 : Int64)) * ((1 : Int64) <<< ((p5_ &&& (7 : Int32)) &&& 0x3f).toInt64)) + (((p3_ &&& (1023 : Int32)).toInt64) * (((((8 : Int32) - ((p4_ &&& (2147483647 : Int32)) % (9 : Int32))).toInt64) * ((1 : Int64) <<< ((p5_ &&& (7 : Int32)) &&& 0x3f).toInt64)) + ((((p4_ &&& (2147483647 : Int32)) % (9 : Int32)).toInt64) * ((p2_ &&& (1048575 : Int32)).toInt64)))))), .second, .val (.long ((((((p0_ % (65536 : Int32)).toInt64) * ((p1_ &&& (65535 : Int32)).toInt64)) * (((p3_ &&& (1023 : Int32)) + (4 : Int32)).toInt64)) * (8 : Int64)) * ((1 : Int64) <<< ((p5_ &&& (7 : Int32)) &&& 0x3f).toInt64))), .second, .unset, .unset, .unset] [(.ref b7)])) _
      refine XS.astore X16.here hx rfl (hb hby at_134) rfl rfl (l' := #[.val (.int p0_), .val (.int p1_), .val (.int p2_), .val (.int p3_), .val (.int p4_), .val (.int p5_), .val (.int (p0_ % (65536 : Int32))), .val (.int (p1_ &&& (65535 : Int32))), .val (.int (p2_ &&& (1048575 : Int32))), .val (.int (p3_ &&& (1023 : Int32))), .val (.int ((p4_ &&& (2147483647 : Int32)) % (9 : Int32))), .val (.int (p5_ &&& (7 : Int32))), .val (.long ((1 : Int64) <<< ((p5_ &&& (7 : Int32)) &&& 0x3f).toInt64)), .second, .val (.long (((((p1_ &&& (65535 : Int32)).toInt64) * (32 : Int64)) * ((1 : Int64) <<< ((p5_ &&& (7 : Int32)) &&& 0x3f).toInt64)) + (((p3_ &&& (1023 : Int32)).toInt64) * (((((8 : Int32) - ((p4_ &&& (2147483647 : Int32)) % (9 : Int32))).toInt64) * ((1 : Int64) <<< ((p5_ &&& (7 : Int32)) &&& 0x3f).toInt64)) + ((((p4_ &&& (2147483647 : Int32)) % (9 : Int32)).toInt64) * ((p2_ &&& (1048575 : Int32)).toInt64)))))), .second, .val (.long ((((((p0_ % (65536 : Int32)).toInt64) * ((p1_ &&& (65535 : Int32)).toInt64)) * (((p3_ &&& (1023 : Int32)) + (4 : Int32)).toInt64)) * (8 : Int64)) * ((1 : Int64) <<< ((p5_ &&& (7 : Int32)) &&& 0x3f).toInt64))), .second, .val (.ref b7), .unset, .unset]) rfl ?_
      show Steps p.tables e below (T16.setTop (mkF m 136 #[.val (.int p0_), .val (.int p1_), .val (.int p2_), .val (.int p3_), .val (.int p4_), .val (.int p5_), .val (.int (p0_ % (65536 : Int32))), .val (.int (p1_ &&& (65535 : Int32))), .val (.int (p2_ &&& (1048575 : Int32))), .val (.int (p3_ &&& (1023 : Int32))), .val (.int ((p4_ &&& (2147483647 : Int32)) % (9 : Int32))), .val (.int (p5_ &&& (7 : Int32))), .val (.long ((1 : Int64) <<< ((p5_ &&& (7 : Int32)) &&& 0x3f).toInt64)), .second, .val (.long (((((p1_ &&& (65535 : Int32)).toInt64) * (32 : Int64)) * ((1 : Int64) <<< ((p5_ &&& (7 : Int32)) &&& 0x3f).toInt64)) + (((p3_ &&& (1023 : Int32)).toInt64) * (((((8 : Int32) - ((p4_ &&& (2147483647 : Int32)) % (9 : Int32))).toInt64) * ((1 : Int64) <<< ((p5_ &&& (7 : Int32)) &&& 0x3f).toInt64)) + ((((p4_ &&& (2147483647 : Int32)) % (9 : Int32)).toInt64) * ((p2_ &&& (1048575 : Int32)).toInt64)))))), .second, .val (.long ((((((p0_ % (65536 : Int32)).toInt64) * ((p1_ &&& (65535 : Int32)).toInt64)) * (((p3_ &&& (1023 : Int32)) + (4 : Int32)).toInt64)) * (8 : Int64)) * ((1 : Int64) <<< ((p5_ &&& (7 : Int32)) &&& 0x3f).toInt64))), .second, .val (.ref b7), .unset, .unset] [])) _
      refine XS.aload X16.here hx rfl (hb hby at_136) rfl rfl ?_
      show Steps p.tables e below (T16.setTop (mkF m 138 #[.val (.int p0_), .val (.int p1_), .val (.int p2_), .val (.int p3_), .val (.int p4_), .val (.int p5_), .val (.int (p0_ % (65536 : Int32))), .val (.int (p1_ &&& (65535 : Int32))), .val (.int (p2_ &&& (1048575 : Int32))), .val (.int (p3_ &&& (1023 : Int32))), .val (.int ((p4_ &&& (2147483647 : Int32)) % (9 : Int32))), .val (.int (p5_ &&& (7 : Int32))), .val (.long ((1 : Int64) <<< ((p5_ &&& (7 : Int32)) &&& 0x3f).toInt64)), .second, .val (.long (((((p1_ &&& (65535 : Int32)).toInt64) * (32 : Int64)) * ((1 : Int64) <<< ((p5_ &&& (7 : Int32)) &&& 0x3f).toInt64)) + (((p3_ &&& (1023 : Int32)).toInt64) * (((((8 : Int32) - ((p4_ &&& (2147483647 : Int32)) % (9 : Int32))).toInt64) * ((1 : Int64) <<< ((p5_ &&& (7 : Int32)) &&& 0x3f).toInt64)) + ((((p4_ &&& (2147483647 : Int32)) % (9 : Int32)).toInt64) * ((p2_ &&& (1048575 : Int32)).toInt64)))))), .second, .val (.long ((((((p0_ % (65536 : Int32)).toInt64) * ((p1_ &&& (65535 : Int32)).toInt64)) * (((p3_ &&& (1023 : Int32)) + (4 : Int32)).toInt64)) * (8 : Int64)) * ((1 : Int64) <<< ((p5_ &&& (7 : Int32)) &&& 0x3f).toInt64))), .second, .val (.ref b7), .unset, .unset] [(.ref b7)])) _
      refine XS.iload X16.here hx rfl (hb hby at_138) rfl ?_
      show Steps p.tables e below (T16.setTop (mkF m 140 #[.val (.int p0_), .val (.int p1_), .val (.int p2_), .val (.int p3_), .val (.int p4_), .val (.int p5_), .val (.int (p0_ % (65536 : Int32))), .val (.int (p1_ &&& (65535 : Int32))), .val (.int (p2_ &&& (1048575 : Int32))), .val (.int (p3_ &&& (1023 : Int32))), .val (.int ((p4_ &&& (2147483647 : Int32)) % (9 : Int32))), .val (.int (p5_ &&& (7 : Int32))), .val (.long ((1 : Int64) <<< ((p5_ &&& (7 : Int32)) &&& 0x3f).toInt64)), .second, .val (.long (((((p1_ &&& (65535 : Int32)).toInt64) * (32 : Int64)) * ((1 : Int64) <<< ((p5_ &&& (7 : Int32)) &&& 0x3f).toInt64)) + (((p3_ &&& (1023 : Int32)).toInt64) * (((((8 : Int32) - ((p4_ &&& (2147483647 : Int32)) % (9 : Int32))).toInt64) * ((1 : Int64) <<< ((p5_ &&& (7 : Int32)) &&& 0x3f).toInt64)) + ((((p4_ &&& (2147483647 : Int32)) % (9 : Int32)).toInt64) * ((p2_ &&& (1048575 : Int32)).toInt64)))))), .second, .val (.long ((((((p0_ % (65536 : Int32)).toInt64) * ((p1_ &&& (65535 : Int32)).toInt64)) * (((p3_ &&& (1023 : Int32)) + (4 : Int32)).toInt64)) * (8 : Int64)) * ((1 : Int64) <<< ((p5_ &&& (7 : Int32)) &&& 0x3f).toInt64))), .second, .val (.ref b7), .unset, .unset] [(.int (p0_ % (65536 : Int32))), (.ref b7)])) _
      refine XS.i2dS X16.here hx rfl (hb hby at_140) rfl rfl ?_
      show Steps p.tables e below (T16.setTop (mkF m 141 #[.val (.int p0_), .val (.int p1_), .val (.int p2_), .val (.int p3_), .val (.int p4_), .val (.int p5_), .val (.int (p0_ % (65536 : Int32))), .val (.int (p1_ &&& (65535 : Int32))), .val (.int (p2_ &&& (1048575 : Int32))), .val (.int (p3_ &&& (1023 : Int32))), .val (.int ((p4_ &&& (2147483647 : Int32)) % (9 : Int32))), .val (.int (p5_ &&& (7 : Int32))), .val (.long ((1 : Int64) <<< ((p5_ &&& (7 : Int32)) &&& 0x3f).toInt64)), .second, .val (.long (((((p1_ &&& (65535 : Int32)).toInt64) * (32 : Int64)) * ((1 : Int64) <<< ((p5_ &&& (7 : Int32)) &&& 0x3f).toInt64)) + (((p3_ &&& (1023 : Int32)).toInt64) * (((((8 : Int32) - ((p4_ &&& (2147483647 : Int32)) % (9 : Int32))).toInt64) * ((1 : Int64) <<< ((p5_ &&& (7 : Int32)) &&& 0x3f).toInt64)) + ((((p4_ &&& (2147483647 : Int32)) % (9 : Int32)).toInt64) * ((p2_ &&& (1048575 : Int32)).toInt64)))))), .second, .val (.long ((((((p0_ % (65536 : Int32)).toInt64) * ((p1_ &&& (65535 : Int32)).toInt64)) * (((p3_ &&& (1023 : Int32)) + (4 : Int32)).toInt64)) * (8 : Int64)) * ((1 : Int64) <<< ((p5_ &&& (7 : Int32)) &&& 0x3f).toInt64))), .second, .val (.ref b7), .unset, .unset] [(.double (FP.i2d (p0_ % (65536 : Int32)))), (.ref b7)])) _
      refine XS.iload X16.here hx rfl (hb hby at_141) rfl ?_
      show Steps p.tables e below (T16.setTop (mkF m 143 #[.val (.int p0_), .val (.int p1_), .val (.int p2_), .val (.int p3_), .val (.int p4_), .val (.int p5_), .val (.int (p0_ % (65536 : Int32))), .val (.int (p1_ &&& (65535 : Int32))), .val (.int (p2_ &&& (1048575 : Int32))), .val (.int (p3_ &&& (1023 : Int32))), .val (.int ((p4_ &&& (2147483647 : Int32)) % (9 : Int32))), .val (.int (p5_ &&& (7 : Int32))), .val (.long ((1 : Int64) <<< ((p5_ &&& (7 : Int32)) &&& 0x3f).toInt64)), .second, .val (.long (((((p1_ &&& (65535 : Int32)).toInt64) * (32 : Int64)) * ((1 : Int64) <<< ((p5_ &&& (7 : Int32)) &&& 0x3f).toInt64)) + (((p3_ &&& (1023 : Int32)).toInt64) * (((((8 : Int32) - ((p4_ &&& (2147483647 : Int32)) % (9 : Int32))).toInt64) * ((1 : Int64) <<< ((p5_ &&& (7 : Int32)) &&& 0x3f).toInt64)) + ((((p4_ &&& (2147483647 : Int32)) % (9 : Int32)).toInt64) * ((p2_ &&& (1048575 : Int32)).toInt64)))))), .second, .val (.long ((((((p0_ % (65536 : Int32)).toInt64) * ((p1_ &&& (65535 : Int32)).toInt64)) * (((p3_ &&& (1023 : Int32)) + (4 : Int32)).toInt64)) * (8 : Int64)) * ((1 : Int64) <<< ((p5_ &&& (7 : Int32)) &&& 0x3f).toInt64))), .second, .val (.ref b7), .unset, .unset] [(.int (p1_ &&& (65535 : Int32))), (.double (FP.i2d (p0_ % (65536 : Int32)))), (.ref b7)])) _
      refine XS.i2l X16.here hx rfl (hb hby at_143) rfl ?_
      show Steps p.tables e below (T16.setTop (mkF m 144 #[.val (.int p0_), .val (.int p1_), .val (.int p2_), .val (.int p3_), .val (.int p4_), .val (.int p5_), .val (.int (p0_ % (65536 : Int32))), .val (.int (p1_ &&& (65535 : Int32))), .val (.int (p2_ &&& (1048575 : Int32))), .val (.int (p3_ &&& (1023 : Int32))), .val (.int ((p4_ &&& (2147483647 : Int32)) % (9 : Int32))), .val (.int (p5_ &&& (7 : Int32))), .val (.long ((1 : Int64) <<< ((p5_ &&& (7 : Int32)) &&& 0x3f).toInt64)), .second, .val (.long (((((p1_ &&& (65535 : Int32)).toInt64) * (32 : Int64)) * ((1 : Int64) <<< ((p5_ &&& (7 : Int32)) &&& 0x3f).toInt64)) + (((p3_ &&& (1023 : Int32)).toInt64) * (((((8 : Int32) - ((p4_ &&& (2147483647 : Int32)) % (9 : Int32))).toInt64) * ((1 : Int64) <<< ((p5_ &&& (7 : Int32)) &&& 0x3f).toInt64)) + ((((p4_ &&& (2147483647 : Int32)) % (9 : Int32)).toInt64) * ((p2_ &&& (1048575 : Int32)).toInt64)))))), .second, .val (.long ((((((p0_ % (65536 : Int32)).toInt64) * ((p1_ &&& (65535 : Int32)).toInt64)) * (((p3_ &&& (1023 : Int32)) + (4 : Int32)).toInt64)) * (8 : Int64)) * ((1 : Int64) <<< ((p5_ &&& (7 : Int32)) &&& 0x3f).toInt64))), .second, .val (.ref b7), .unset, .unset] [(.long ((p1_ &&& (65535 : Int32)).toInt64)), (.double (FP.i2d (p0_ % (65536 : Int32)))), (.ref b7)])) _
      refine XS.iload X16.here hx rfl (hb hby at_144) rfl ?_
      show Steps p.tables e below (T16.setTop (mkF m 146 #[.val (.int p0_), .val (.int p1_), .val (.int p2_), .val (.int p3_), .val (.int p4_), .val (.int p5_), .val (.int (p0_ % (65536 : Int32))), .val (.int (p1_ &&& (65535 : Int32))), .val (.int (p2_ &&& (1048575 : Int32))), .val (.int (p3_ &&& (1023 : Int32))), .val (.int ((p4_ &&& (2147483647 : Int32)) % (9 : Int32))), .val (.int (p5_ &&& (7 : Int32))), .val (.long ((1 : Int64) <<< ((p5_ &&& (7 : Int32)) &&& 0x3f).toInt64)), .second, .val (.long (((((p1_ &&& (65535 : Int32)).toInt64) * (32 : Int64)) * ((1 : Int64) <<< ((p5_ &&& (7 : Int32)) &&& 0x3f).toInt64)) + (((p3_ &&& (1023 : Int32)).toInt64) * (((((8 : Int32) - ((p4_ &&& (2147483647 : Int32)) % (9 : Int32))).toInt64) * ((1 : Int64) <<< ((p5_ &&& (7 : Int32)) &&& 0x3f).toInt64)) + ((((p4_ &&& (2147483647 : Int32)) % (9 : Int32)).toInt64) * ((p2_ &&& (1048575 : Int32)).toInt64)))))), .second, .val (.long ((((((p0_ % (65536 : Int32)).toInt64) * ((p1_ &&& (65535 : Int32)).toInt64)) * (((p3_ &&& (1023 : Int32)) + (4 : Int32)).toInt64)) * (8 : Int64)) * ((1 : Int64) <<< ((p5_ &&& (7 : Int32)) &&& 0x3f).toInt64))), .second, .val (.ref b7), .unset, .unset] [(.int (p2_ &&& (1048575 : Int32))), (.long ((p1_ &&& (65535 : Int32)).toInt64)), (.double (FP.i2d (p0_ % (65536 : Int32)))), (.ref b7)])) _
      refine XS.i2l X16.here hx rfl (hb hby at_146) rfl ?_
      show Steps p.tables e below (T16.setTop (mkF m 147 #[.val (.int p0_), .val (.int p1_), .val (.int p2_), .val (.int p3_), .val (.int p4_), .val (.int p5_), .val (.int (p0_ % (65536 : Int32))), .val (.int (p1_ &&& (65535 : Int32))), .val (.int (p2_ &&& (1048575 : Int32))), .val (.int (p3_ &&& (1023 : Int32))), .val (.int ((p4_ &&& (2147483647 : Int32)) % (9 : Int32))), .val (.int (p5_ &&& (7 : Int32))), .val (.long ((1 : Int64) <<< ((p5_ &&& (7 : Int32)) &&& 0x3f).toInt64)), .second, .val (.long (((((p1_ &&& (65535 : Int32)).toInt64) * (32 : Int64)) * ((1 : Int64) <<< ((p5_ &&& (7 : Int32)) &&& 0x3f).toInt64)) + (((p3_ &&& (1023 : Int32)).toInt64) * (((((8 : Int32) - ((p4_ &&& (2147483647 : Int32)) % (9 : Int32))).toInt64) * ((1 : Int64) <<< ((p5_ &&& (7 : Int32)) &&& 0x3f).toInt64)) + ((((p4_ &&& (2147483647 : Int32)) % (9 : Int32)).toInt64) * ((p2_ &&& (1048575 : Int32)).toInt64)))))), .second, .val (.long ((((((p0_ % (65536 : Int32)).toInt64) * ((p1_ &&& (65535 : Int32)).toInt64)) * (((p3_ &&& (1023 : Int32)) + (4 : Int32)).toInt64)) * (8 : Int64)) * ((1 : Int64) <<< ((p5_ &&& (7 : Int32)) &&& 0x3f).toInt64))), .second, .val (.ref b7), .unset, .unset] [(.long ((p2_ &&& (1048575 : Int32)).toInt64)), (.long ((p1_ &&& (65535 : Int32)).toInt64)), (.double (FP.i2d (p0_ % (65536 : Int32)))), (.ref b7)])) _
      refine XS.lload X16.here hx rfl (hb hby at_147) rfl ?_
      show Steps p.tables e below (T16.setTop (mkF m 149 #[.val (.int p0_), .val (.int p1_), .val (.int p2_), .val (.int p3_), .val (.int p4_), .val (.int p5_), .val (.int (p0_ % (65536 : Int32))), .val (.int (p1_ &&& (65535 : Int32))), .val (.int (p2_ &&& (1048575 : Int32))), .val (.int (p3_ &&& (1023 : Int32))), .val (.int ((p4_ &&& (2147483647 : Int32)) % (9 : Int32))), .val (.int (p5_ &&& (7 : Int32))), .val (.long ((1 : Int64) <<< ((p5_ &&& (7 : Int32)) &&& 0x3f).toInt64)), .second, .val (.long (((((p1_ &&& (65535 : Int32)).toInt64) * (32 : Int64)) * ((1 : Int64) <<< ((p5_ &&& (7 : Int32)) &&& 0x3f).toInt64)) + (((p3_ &&& (1023 : Int32)).toInt64) * (((((8 : Int32) - ((p4_ &&& (2147483647 : Int32)) % (9 : Int32))).toInt64) * ((1 : Int64) <<< ((p5_ &&& (7 : Int32)) &&& 0x3f).toInt64)) + ((((p4_ &&& (2147483647 : Int32)) % (9 : Int32)).toInt64) * ((p2_ &&& (1048575 : Int32)).toInt64)))))), .second, .val (.long ((((((p0_ % (65536 : Int32)).toInt64) * ((p1_ &&& (65535 : Int32)).toInt64)) * (((p3_ &&& (1023 : Int32)) + (4 : Int32)).toInt64)) * (8 : Int64)) * ((1 : Int64) <<< ((p5_ &&& (7 : Int32)) &&& 0x3f).toInt64))), .second, .val (.ref b7), .unset, .unset] [(.long ((1 : Int64) <<< ((p5_ &&& (7 : Int32)) &&& 0x3f).toInt64)), (.long ((p2_ &&& (1048575 : Int32)).toInt64)), (.long ((p1_ &&& (65535 : Int32)).toInt64)), (.double (FP.i2d (p0_ % (65536 : Int32)))), (.ref b7)])) _
      refine XS.l2dS X16.here hx rfl (hb hby at_149) rfl rfl ?_
      show Steps p.tables e below (T16.setTop (mkF m 150 #[.val (.int p0_), .val (.int p1_), .val (.int p2_), .val (.int p3_), .val (.int p4_), .val (.int p5_), .val (.int (p0_ % (65536 : Int32))), .val (.int (p1_ &&& (65535 : Int32))), .val (.int (p2_ &&& (1048575 : Int32))), .val (.int (p3_ &&& (1023 : Int32))), .val (.int ((p4_ &&& (2147483647 : Int32)) % (9 : Int32))), .val (.int (p5_ &&& (7 : Int32))), .val (.long ((1 : Int64) <<< ((p5_ &&& (7 : Int32)) &&& 0x3f).toInt64)), .second, .val (.long (((((p1_ &&& (65535 : Int32)).toInt64) * (32 : Int64)) * ((1 : Int64) <<< ((p5_ &&& (7 : Int32)) &&& 0x3f).toInt64)) + (((p3_ &&& (1023 : Int32)).toInt64) * (((((8 : Int32) - ((p4_ &&& (2147483647 : Int32)) % (9 : Int32))).toInt64) * ((1 : Int64) <<< ((p5_ &&& (7 : Int32)) &&& 0x3f).toInt64)) + ((((p4_ &&& (2147483647 : Int32)) % (9 : Int32)).toInt64) * ((p2_ &&& (1048575 : Int32)).toInt64)))))), .second, .val (.long ((((((p0_ % (65536 : Int32)).toInt64) * ((p1_ &&& (65535 : Int32)).toInt64)) * (((p3_ &&& (1023 : Int32)) + (4 : Int32)).toInt64)) * (8 : Int64)) * ((1 : Int64) <<< ((p5_ &&& (7 : Int32)) &&& 0x3f).toInt64))), .second, .val (.ref b7), .unset, .unset] [(.double (FP.l2d ((1 : Int64) <<< ((p5_ &&& (7 : Int32)) &&& 0x3f).toInt64))), (.long ((p2_ &&& (1048575 : Int32)).toInt64)), (.long ((p1_ &&& (65535 : Int32)).toInt64)), (.double (FP.i2d (p0_ % (65536 : Int32)))), (.ref b7)])) _
      refine st30.trans ?_
      show Steps p.tables e below (T30.setTop (mkF m 153 #[.val (.int p0_), .val (.int p1_), .val (.int p2_), .val (.int p3_), .val (.int p4_), .val (.int p5_), .val (.int (p0_ % (65536 : Int32))), .val (.int (p1_ &&& (65535 : Int32))), .val (.int (p2_ &&& (1048575 : Int32))), .val (.int (p3_ &&& (1023 : Int32))), .val (.int ((p4_ &&& (2147483647 : Int32)) % (9 : Int32))), .val (.int (p5_ &&& (7 : Int32))), .val (.long ((1 : Int64) <<< ((p5_ &&& (7 : Int32)) &&& 0x3f).toInt64)), .second, .val (.long (((((p1_ &&& (65535 : Int32)).toInt64) * (32 : Int64)) * ((1 : Int64) <<< ((p5_ &&& (7 : Int32)) &&& 0x3f).toInt64)) + (((p3_ &&& (1023 : Int32)).toInt64) * (((((8 : Int32) - ((p4_ &&& (2147483647 : Int32)) % (9 : Int32))).toInt64) * ((1 : Int64) <<< ((p5_ &&& (7 : Int32)) &&& 0x3f).toInt64)) + ((((p4_ &&& (2147483647 : Int32)) % (9 : Int32)).toInt64) * ((p2_ &&& (1048575 : Int32)).toInt64)))))), .second, .val (.long ((((((p0_ % (65536 : Int32)).toInt64) * ((p1_ &&& (65535 : Int32)).toInt64)) * (((p3_ &&& (1023 : Int32)) + (4 : Int32)).toInt64)) * (8 : Int64)) * ((1 : Int64) <<< ((p5_ &&& (7 : Int32)) &&& 0x3f).toInt64))), .second, .val (.ref b7), .unset, .unset] [(.double (FP.ddiv (FP.dmul (FP.dmul (FP.i2d (p0_ % (65536 : Int32))) (FP.l2d ((p1_ &&& (65535 : Int32)).toInt64))) (FP.dadd (FP.ddiv (FP.i2d (p3_ &&& (1023 : Int32))) (4616189618054758400 : UInt64)) (4607182418800017408 : UInt64))) (FP.dadd (FP.l2d ((p1_ &&& (65535 : Int32)).toInt64)) (FP.dmul (FP.ddiv (FP.i2d (p3_ &&& (1023 : Int32))) (4616189618054758400 : UInt64)) (FP.dadd (FP.dsub (4607182418800017408 : UInt64) (FP.ddiv (FP.i2d ((p4_ &&& (2147483647 : Int32)) % (9 : Int32))) (4620693217682128896 : UInt64))) (FP.dmul (FP.ddiv (FP.i2d ((p4_ &&& (2147483647 : Int32)) % (9 : Int32))) (4620693217682128896 : UInt64)) (FP.ddiv (FP.l2d ((p2_ &&& (1048575 : Int32)).toInt64)) (FP.l2d ((1 : Int64) <<< ((p5_ &&& (7 : Int32)) &&& 0x3f).toInt64)))))))))])) _
      refine XS.dstore X30.here hx rfl (hb hby at_153) rfl (l' := #[.val (.int p0_), .val (.int p1_), .val (.int p2_), .val (.int p3_), .val (.int p4_), .val (.int p5_), .val (.int (p0_ % (65536 : Int32))), .val (.int (p1_ &&& (65535 : Int32))), .val (.int (p2_ &&& (1048575 : Int32))), .val (.int (p3_ &&& (1023 : Int32))), .val (.int ((p4_ &&& (2147483647 : Int32)) % (9 : Int32))), .val (.int (p5_ &&& (7 : Int32))), .val (.long ((1 : Int64) <<< ((p5_ &&& (7 : Int32)) &&& 0x3f).toInt64)), .second, .val (.long (((((p1_ &&& (65535 : Int32)).toInt64) * (32 : Int64)) * ((1 : Int64) <<< ((p5_ &&& (7 : Int32)) &&& 0x3f).toInt64)) + (((p3_ &&& (1023 : Int32)).toInt64) * (((((8 : Int32) - ((p4_ &&& (2147483647 : Int32)) % (9 : Int32))).toInt64) * ((1 : Int64) <<< ((p5_ &&& (7 : Int32)) &&& 0x3f).toInt64)) + ((((p4_ &&& (2147483647 : Int32)) % (9 : Int32)).toInt64) * ((p2_ &&& (1048575 : Int32)).toInt64)))))), .second, .val (.long ((((((p0_ % (65536 : Int32)).toInt64) * ((p1_ &&& (65535 : Int32)).toInt64)) * (((p3_ &&& (1023 : Int32)) + (4 : Int32)).toInt64)) * (8 : Int64)) * ((1 : Int64) <<< ((p5_ &&& (7 : Int32)) &&& 0x3f).toInt64))), .second, .val (.ref b7), .val (.double (FP.ddiv (FP.dmul (FP.dmul (FP.i2d (p0_ % (65536 : Int32))) (FP.l2d ((p1_ &&& (65535 : Int32)).toInt64))) (FP.dadd (FP.ddiv (FP.i2d (p3_ &&& (1023 : Int32))) (4616189618054758400 : UInt64)) (4607182418800017408 : UInt64))) (FP.dadd (FP.l2d ((p1_ &&& (65535 : Int32)).toInt64)) (FP.dmul (FP.ddiv (FP.i2d (p3_ &&& (1023 : Int32))) (4616189618054758400 : UInt64)) (FP.dadd (FP.dsub (4607182418800017408 : UInt64) (FP.ddiv (FP.i2d ((p4_ &&& (2147483647 : Int32)) % (9 : Int32))) (4620693217682128896 : UInt64))) (FP.dmul (FP.ddiv (FP.i2d ((p4_ &&& (2147483647 : Int32)) % (9 : Int32))) (4620693217682128896 : UInt64)) (FP.ddiv (FP.l2d ((p2_ &&& (1048575 : Int32)).toInt64)) (FP.l2d ((1 : Int64) <<< ((p5_ &&& (7 : Int32)) &&& 0x3f).toInt64))))))))), .second]) rfl ?_
      show Steps p.tables e below (T30.setTop (mkF m 155 #[.val (.int p0_), .val (.int p1_), .val (.int p2_), .val (.int p3_), .val (.int p4_), .val (.int p5_), .val (.int (p0_ % (65536 : Int32))), .val (.int (p1_ &&& (65535 : Int32))), .val (.int (p2_ &&& (1048575 : Int32))), .val (.int (p3_ &&& (1023 : Int32))), .val (.int ((p4_ &&& (2147483647 : Int32)) % (9 : Int32))), .val (.int (p5_ &&& (7 : Int32))), .val (.long ((1 : Int64) <<< ((p5_ &&& (7 : Int32)) &&& 0x3f).toInt64)), .second, .val (.long (((((p1_ &&& (65535 : Int32)).toInt64) * (32 : Int64)) * ((1 : Int64) <<< ((p5_ &&& (7 : Int32)) &&& 0x3f).toInt64)) + (((p3_ &&& (1023 : Int32)).toInt64) * (((((8 : Int32) - ((p4_ &&& (2147483647 : Int32)) % (9 : Int32))).toInt64) * ((1 : Int64) <<< ((p5_ &&& (7 : Int32)) &&& 0x3f).toInt64)) + ((((p4_ &&& (2147483647 : Int32)) % (9 : Int32)).toInt64) * ((p2_ &&& (1048575 : Int32)).toInt64)))))), .second, .val (.long ((((((p0_ % (65536 : Int32)).toInt64) * ((p1_ &&& (65535 : Int32)).toInt64)) * (((p3_ &&& (1023 : Int32)) + (4 : Int32)).toInt64)) * (8 : Int64)) * ((1 : Int64) <<< ((p5_ &&& (7 : Int32)) &&& 0x3f).toInt64))), .second, .val (.ref b7), .val (.double (FP.ddiv (FP.dmul (FP.dmul (FP.i2d (p0_ % (65536 : Int32))) (FP.l2d ((p1_ &&& (65535 : Int32)).toInt64))) (FP.dadd (FP.ddiv (FP.i2d (p3_ &&& (1023 : Int32))) (4616189618054758400 : UInt64)) (4607182418800017408 : UInt64))) (FP.dadd (FP.l2d ((p1_ &&& (65535 : Int32)).toInt64)) (FP.dmul (FP.ddiv (FP.i2d (p3_ &&& (1023 : Int32))) (4616189618054758400 : UInt64)) (FP.dadd (FP.dsub (4607182418800017408 : UInt64) (FP.ddiv (FP.i2d ((p4_ &&& (2147483647 : Int32)) % (9 : Int32))) (4620693217682128896 : UInt64))) (FP.dmul (FP.ddiv (FP.i2d ((p4_ &&& (2147483647 : Int32)) % (9 : Int32))) (4620693217682128896 : UInt64)) (FP.ddiv (FP.l2d ((p2_ &&& (1048575 : Int32)).toInt64)) (FP.l2d ((1 : Int64) <<< ((p5_ &&& (7 : Int32)) &&& 0x3f).toInt64))))))))), .second] [])) _
      refine XS.dload X30.here hx rfl (hb hby at_155) rfl ?_
      show Steps p.tables e below (T30.setTop (mkF m 157 #[.val (.int p0_), .val (.int p1_), .val (.int p2_), .val (.int p3_), .val (.int p4_), .val (.int p5_), .val (.int (p0_ % (65536 : Int32))), .val (.int (p1_ &&& (65535 : Int32))), .val (.int (p2_ &&& (1048575 : Int32))), .val (.int (p3_ &&& (1023 : Int32))), .val (.int ((p4_ &&& (2147483647 : Int32)) % (9 : Int32))), .val (.int (p5_ &&& (7 : Int32))), .val (.long ((1 : Int64) <<< ((p5_ &&& (7 : Int32)) &&& 0x3f).toInt64)), .second, .val (.long (((((p1_ &&& (65535 : Int32)).toInt64) * (32 : Int64)) * ((1 : Int64) <<< ((p5_ &&& (7 : Int32)) &&& 0x3f).toInt64)) + (((p3_ &&& (1023 : Int32)).toInt64) * (((((8 : Int32) - ((p4_ &&& (2147483647 : Int32)) % (9 : Int32))).toInt64) * ((1 : Int64) <<< ((p5_ &&& (7 : Int32)) &&& 0x3f).toInt64)) + ((((p4_ &&& (2147483647 : Int32)) % (9 : Int32)).toInt64) * ((p2_ &&& (1048575 : Int32)).toInt64)))))), .second, .val (.long ((((((p0_ % (65536 : Int32)).toInt64) * ((p1_ &&& (65535 : Int32)).toInt64)) * (((p3_ &&& (1023 : Int32)) + (4 : Int32)).toInt64)) * (8 : Int64)) * ((1 : Int64) <<< ((p5_ &&& (7 : Int32)) &&& 0x3f).toInt64))), .second, .val (.ref b7), .val (.double (FP.ddiv (FP.dmul (FP.dmul (FP.i2d (p0_ % (65536 : Int32))) (FP.l2d ((p1_ &&& (65535 : Int32)).toInt64))) (FP.dadd (FP.ddiv (FP.i2d (p3_ &&& (1023 : Int32))) (4616189618054758400 : UInt64)) (4607182418800017408 : UInt64))) (FP.dadd (FP.l2d ((p1_ &&& (65535 : Int32)).toInt64)) (FP.dmul (FP.ddiv (FP.i2d (p3_ &&& (1023 : Int32))) (4616189618054758400 : UInt64)) (FP.dadd (FP.dsub (4607182418800017408 : UInt64) (FP.ddiv (FP.i2d ((p4_ &&& (2147483647 : Int32)) % (9 : Int32))) (4620693217682128896 : UInt64))) (FP.dmul (FP.ddiv (FP.i2d ((p4_ &&& (2147483647 : Int32)) % (9 : Int32))) (4620693217682128896 : UInt64)) (FP.ddiv (FP.l2d ((p2_ &&& (1048575 : Int32)).toInt64)) (FP.l2d ((1 : Int64) <<< ((p5_ &&& (7 : Int32)) &&& 0x3f).toInt64))))))))), .second] [(.double (FP.ddiv (FP.dmul (FP.dmul (FP.i2d (p0_ % (65536 : Int32))) (FP.l2d ((p1_ &&& (65535 : Int32)).toInt64))) (FP.dadd (FP.ddiv (FP.i2d (p3_ &&& (1023 : Int32))) (4616189618054758400 : UInt64)) (4607182418800017408 : UInt64))) (FP.dadd (FP.l2d ((p1_ &&& (65535 : Int32)).toInt64)) (FP.dmul (FP.ddiv (FP.i2d (p3_ &&& (1023 : Int32))) (4616189618054758400 : UInt64)) (FP.dadd (FP.dsub (4607182418800017408 : UInt64) (FP.ddiv (FP.i2d ((p4_ &&& (2147483647 : Int32)) % (9 : Int32))) (4620693217682128896 : UInt64))) (FP.dmul (FP.ddiv (FP.i2d ((p4_ &&& (2147483647 : Int32)) % (9 : Int32))) (4620693217682128896 : UInt64)) (FP.ddiv (FP.l2d ((p2_ &&& (1048575 : Int32)).toInt64)) (FP.l2d ((1 : Int64) <<< ((p5_ &&& (7 : Int32)) &&& 0x3f).toInt64)))))))))])) _
      refine XS.lload X30.here hx rfl (hb hby at_157) rfl ?_
      show Steps p.tables e below (T30.setTop (mkF m 159 #[.val (.int p0_), .val (.int p1_), .val (.int p2_), .val (.int p3_), .val (.int p4_), .val (.int p5_), .val (.int (p0_ % (65536 : Int32))), .val (.int (p1_ &&& (65535 : Int32))), .val (.int (p2_ &&& (1048575 : Int32))), .val (.int (p3_ &&& (1023 : Int32))), .val (.int ((p4_ &&& (2147483647 : Int32)) % (9 : Int32))), .val (.int (p5_ &&& (7 : Int32))), .val (.long ((1 : Int64) <<< ((p5_ &&& (7 : Int32)) &&& 0x3f).toInt64)), .second, .val (.long (((((p1_ &&& (65535 : Int32)).toInt64) * (32 : Int64)) * ((1 : Int64) <<< ((p5_ &&& (7 : Int32)) &&& 0x3f).toInt64)) + (((p3_ &&& (1023 : Int32)).toInt64) * (((((8 : Int32) - ((p4_ &&& (2147483647 : Int32)) % (9 : Int32))).toInt64) * ((1 : Int64) <<< ((p5_ &&& (7 : Int32)) &&& 0x3f).toInt64)) + ((((p4_ &&& (2147483647 : Int32)) % (9 : Int32)).toInt64) * ((p2_ &&& (1048575 : Int32)).toInt64)))))), .second, .val (.long ((((((p0_ % (65536 : Int32)).toInt64) * ((p1_ &&& (65535 : Int32)).toInt64)) * (((p3_ &&& (1023 : Int32)) + (4 : Int32)).toInt64)) * (8 : Int64)) * ((1 : Int64) <<< ((p5_ &&& (7 : Int32)) &&& 0x3f).toInt64))), .second, .val (.ref b7), .val (.double (FP.ddiv (FP.dmul (FP.dmul (FP.i2d (p0_ % (65536 : Int32))) (FP.l2d ((p1_ &&& (65535 : Int32)).toInt64))) (FP.dadd (FP.ddiv (FP.i2d (p3_ &&& (1023 : Int32))) (4616189618054758400 : UInt64)) (4607182418800017408 : UInt64))) (FP.dadd (FP.l2d ((p1_ &&& (65535 : Int32)).toInt64)) (FP.dmul (FP.ddiv (FP.i2d (p3_ &&& (1023 : Int32))) (4616189618054758400 : UInt64)) (FP.dadd (FP.dsub (4607182418800017408 : UInt64) (FP.ddiv (FP.i2d ((p4_ &&& (2147483647 : Int32)) % (9 : Int32))) (4620693217682128896 : UInt64))) (FP.dmul (FP.ddiv (FP.i2d ((p4_ &&& (2147483647 : Int32)) % (9 : Int32))) (4620693217682128896 : UInt64)) (FP.ddiv (FP.l2d ((p2_ &&& (1048575 : Int32)).toInt64)) (FP.l2d ((1 : Int64) <<< ((p5_ &&& (7 : Int32)) &&& 0x3f).toInt64))))))))), .second] [(.long ((((((p0_ % (65536 : Int32)).toInt64) * ((p1_ &&& (65535 : Int32)).toInt64)) * (((p3_ &&& (1023 : Int32)) + (4 : Int32)).toInt64)) * (8 : Int64)) * ((1 : Int64) <<< ((p5_ &&& (7 : Int32)) &&& 0x3f).toInt64))), (.double (FP.ddiv (FP.dmul (FP.dmul (FP.i2d (p0_ % (65536 : Int32))) (FP.l2d ((p1_ &&& (65535 : Int32)).toInt64))) (FP.dadd (FP.ddiv (FP.i2d (p3_ &&& (1023 : Int32))) (4616189618054758400 : UInt64)) (4607182418800017408 : UInt64))) (FP.dadd (FP.l2d ((p1_ &&& (65535 : Int32)).toInt64)) (FP.dmul (FP.ddiv (FP.i2d (p3_ &&& (1023 : Int32))) (4616189618054758400 : UInt64)) (FP.dadd (FP.dsub (4607182418800017408 : UInt64) (FP.ddiv (FP.i2d ((p4_ &&& (2147483647 : Int32)) % (9 : Int32))) (4620693217682128896 : UInt64))) (FP.dmul (FP.ddiv (FP.i2d ((p4_ &&& (2147483647 : Int32)) % (9 : Int32))) (4620693217682128896 : UInt64)) (FP.ddiv (FP.l2d ((p2_ &&& (1048575 : Int32)).toInt64)) (FP.l2d ((1 : Int64) <<< ((p5_ &&& (7 : Int32)) &&& 0x3f).toInt64)))))))))])) _
      refine XS.l2dS X30.here hx rfl (hb hby at_159) rfl rfl ?_
      show Steps p.tables e below (T30.setTop (mkF m 160 #[.val (.int p0_), .val (.int p1_), .val (.int p2_), .val (.int p3_), .val (.int p4_), .val (.int p5_), .val (.int (p0_ % (65536 : Int32))), .val (.int (p1_ &&& (65535 : Int32))), .val (.int (p2_ &&& (1048575 : Int32))), .val (.int (p3_ &&& (1023 : Int32))), .val (.int ((p4_ &&& (2147483647 : Int32)) % (9 : Int32))), .val (.int (p5_ &&& (7 : Int32))), .val (.long ((1 : Int64) <<< ((p5_ &&& (7 : Int32)) &&& 0x3f).toInt64)), .second, .val (.long (((((p1_ &&& (65535 : Int32)).toInt64) * (32 : Int64)) * ((1 : Int64) <<< ((p5_ &&& (7 : Int32)) &&& 0x3f).toInt64)) + (((p3_ &&& (1023 : Int32)).toInt64) * (((((8 : Int32) - ((p4_ &&& (2147483647 : Int32)) % (9 : Int32))).toInt64) * ((1 : Int64) <<< ((p5_ &&& (7 : Int32)) &&& 0x3f).toInt64)) + ((((p4_ &&& (2147483647 : Int32)) % (9 : Int32)).toInt64) * ((p2_ &&& (1048575 : Int32)).toInt64)))))), .second, .val (.long ((((((p0_ % (65536 : Int32)).toInt64) * ((p1_ &&& (65535 : Int32)).toInt64)) * (((p3_ &&& (1023 : Int32)) + (4 : Int32)).toInt64)) * (8 : Int64)) * ((1 : Int64) <<< ((p5_ &&& (7 : Int32)) &&& 0x3f).toInt64))), .second, .val (.ref b7), .val (.double (FP.ddiv (FP.dmul (FP.dmul (FP.i2d (p0_ % (65536 : Int32))) (FP.l2d ((p1_ &&& (65535 : Int32)).toInt64))) (FP.dadd (FP.ddiv (FP.i2d (p3_ &&& (1023 : Int32))) (4616189618054758400 : UInt64)) (4607182418800017408 : UInt64))) (FP.dadd (FP.l2d ((p1_ &&& (65535 : Int32)).toInt64)) (FP.dmul (FP.ddiv (FP.i2d (p3_ &&& (1023 : Int32))) (4616189618054758400 : UInt64)) (FP.dadd (FP.dsub (4607182418800017408 : UInt64) (FP.ddiv (FP.i2d ((p4_ &&& (2147483647 : Int32)) % (9 : Int32))) (4620693217682128896 : UInt64))) (FP.dmul (FP.ddiv (FP.i2d ((p4_ &&& (2147483647 : Int32)) % (9 : Int32))) (4620693217682128896 : UInt64)) (FP.ddiv (FP.l2d ((p2_ &&& (1048575 : Int32)).toInt64)) (FP.l2d ((1 : Int64) <<< ((p5_ &&& (7 : Int32)) &&& 0x3f).toInt64))))))))), .second] [(.double (FP.l2d ((((((p0_ % (65536 : Int32)).toInt64) * ((p1_ &&& (65535 : Int32)).toInt64)) * (((p3_ &&& (1023 : Int32)) + (4 : Int32)).toInt64)) * (8 : Int64)) * ((1 : Int64) <<< ((p5_ &&& (7 : Int32)) &&& 0x3f).toInt64)))), (.double (FP.ddiv (FP.dmul (FP.dmul (FP.i2d (p0_ % (65536 : Int32))) (FP.l2d ((p1_ &&& (65535 : Int32)).toInt64))) (FP.dadd (FP.ddiv (FP.i2d (p3_ &&& (1023 : Int32))) (4616189618054758400 : UInt64)) (4607182418800017408 : UInt64))) (FP.dadd (FP.l2d ((p1_ &&& (65535 : Int32)).toInt64)) (FP.dmul (FP.ddiv (FP.i2d (p3_ &&& (1023 : Int32))) (4616189618054758400 : UInt64)) (FP.dadd (FP.dsub (4607182418800017408 : UInt64) (FP.ddiv (FP.i2d ((p4_ &&& (2147483647 : Int32)) % (9 : Int32))) (4620693217682128896 : UInt64))) (FP.dmul (FP.ddiv (FP.i2d ((p4_ &&& (2147483647 : Int32)) % (9 : Int32))) (4620693217682128896 : UInt64)) (FP.ddiv (FP.l2d ((p2_ &&& (1048575 : Int32)).toInt64)) (FP.l2d ((1 : Int64) <<< ((p5_ &&& (7 : Int32)) &&& 0x3f).toInt64)))))))))])) _
      refine XS.lload X30.here hx rfl (hb hby at_160) rfl ?_
      show Steps p.tables e below (T30.setTop (mkF m 162 #[.val (.int p0_), .val (.int p1_), .val (.int p2_), .val (.int p3_), .val (.int p4_), .val (.int p5_), .val (.int (p0_ % (65536 : Int32))), .val (.int (p1_ &&& (65535 : Int32))), .val (.int (p2_ &&& (1048575 : Int32))), .val (.int (p3_ &&& (1023 : Int32))), .val (.int ((p4_ &&& (2147483647 : Int32)) % (9 : Int32))), .val (.int (p5_ &&& (7 : Int32))), .val (.long ((1 : Int64) <<< ((p5_ &&& (7 : Int32)) &&& 0x3f).toInt64)), .second, .val (.long (((((p1_ &&& (65535 : Int32)).toInt64) * (32 : Int64)) * ((1 : Int64) <<< ((p5_ &&& (7 : Int32)) &&& 0x3f).toInt64)) + (((p3_ &&& (1023 : Int32)).toInt64) * (((((8 : Int32) - ((p4_ &&& (2147483647 : Int32)) % (9 : Int32))).toInt64) * ((1 : Int64) <<< ((p5_ &&& (7 : Int32)) &&& 0x3f).toInt64)) + ((((p4_ &&& (2147483647 : Int32)) % (9 : Int32)).toInt64) * ((p2_ &&& (1048575 : Int32)).toInt64)))))), .second, .val (.long ((((((p0_ % (65536 : Int32)).toInt64) * ((p1_ &&& (65535 : Int32)).toInt64)) * (((p3_ &&& (1023 : Int32)) + (4 : Int32)).toInt64)) * (8 : Int64)) * ((1 : Int64) <<< ((p5_ &&& (7 : Int32)) &&& 0x3f).toInt64))), .second, .val (.ref b7), .val (.double (FP.ddiv (FP.dmul (FP.dmul (FP.i2d (p0_ % (65536 : Int32))) (FP.l2d ((p1_ &&& (65535 : Int32)).toInt64))) (FP.dadd (FP.ddiv (FP.i2d (p3_ &&& (1023 : Int32))) (4616189618054758400 : UInt64)) (4607182418800017408 : UInt64))) (FP.dadd (FP.l2d ((p1_ &&& (65535 : Int32)).toInt64)) (FP.dmul (FP.ddiv (FP.i2d (p3_ &&& (1023 : Int32))) (4616189618054758400 : UInt64)) (FP.dadd (FP.dsub (4607182418800017408 : UInt64) (FP.ddiv (FP.i2d ((p4_ &&& (2147483647 : Int32)) % (9 : Int32))) (4620693217682128896 : UInt64))) (FP.dmul (FP.ddiv (FP.i2d ((p4_ &&& (2147483647 : Int32)) % (9 : Int32))) (4620693217682128896 : UInt64)) (FP.ddiv (FP.l2d ((p2_ &&& (1048575 : Int32)).toInt64)) (FP.l2d ((1 : Int64) <<< ((p5_ &&& (7 : Int32)) &&& 0x3f).toInt64))))))))), .second] [(.long (((((p1_ &&& (65535 : Int32)).toInt64) * (32 : Int64)) * ((1 : Int64) <<< ((p5_ &&& (7 : Int32)) &&& 0x3f).toInt64)) + (((p3_ &&& (1023 : Int32)).toInt64) * (((((8 : Int32) - ((p4_ &&& (2147483647 : Int32)) % (9 : Int32))).toInt64) * ((1 : Int64) <<< ((p5_ &&& (7 : Int32)) &&& 0x3f).toInt64)) + ((((p4_ &&& (2147483647 : Int32)) % (9 : Int32)).toInt64) * ((p2_ &&& (1048575 : Int32)).toInt64)))))), (.double (FP.l2d ((((((p0_ % (65536 : Int32)).toInt64) * ((p1_ &&& (65535 : Int32)).toInt64)) * (((p3_ &&& (1023 : Int32)) + (4 : Int32)).toInt64)) * (8 : Int64)) * ((1 : Int64) <<< ((p5_ &&& (7 : Int32)) &&& 0x3f).toInt64)))), (.double (FP.ddiv (FP.dmul (FP.dmul (FP.i2d (p0_ % (65536 : Int32))) (FP.l2d ((p1_ &&& (65535 : Int32)).toInt64))) (FP.dadd (FP.ddiv (FP.i2d (p3_ &&& (1023 : Int32))) (4616189618054758400 : UInt64)) (4607182418800017408 : UInt64))) (FP.dadd (FP.l2d ((p1_ &&& (65535 : Int32)).toInt64)) (FP.dmul (FP.ddiv (FP.i2d (p3_ &&& (1023 : Int32))) (4616189618054758400 : UInt64)) (FP.dadd (FP.dsub (4607182418800017408 : UInt64) (FP.ddiv (FP.i2d ((p4_ &&& (2147483647 : Int32)) % (9 : Int32))) (4620693217682128896 : UInt64))) (FP.dmul (FP.ddiv (FP.i2d ((p4_ &&& (2147483647 : Int32)) % (9 : Int32))) (4620693217682128896 : UInt64)) (FP.ddiv (FP.l2d ((p2_ &&& (1048575 : Int32)).toInt64)) (FP.l2d ((1 : Int64) <<< ((p5_ &&& (7 : Int32)) &&& 0x3f).toInt64)))))))))])) _
      refine XS.l2dS X30.here hx rfl (hb hby at_162) rfl rfl ?_
      show Steps p.tables e below (T30.setTop (mkF m 163 #[.val (.int p0_), .val (.int p1_), .val (.int p2_), .val (.int p3_), .val (.int p4_), .val (.int p5_), .val (.int (p0_ % (65536 : Int32))), .val (.int (p1_ &&& (65535 : Int32))), .val (.int (p2_ &&& (1048575 : Int32))), .val (.int (p3_ &&& (1023 : Int32))), .val (.int ((p4_ &&& (2147483647 : Int32)) % (9 : Int32))), .val (.int (p5_ &&& (7 : Int32))), .val (.long ((1 : Int64) <<< ((p5_ &&& (7 : Int32)) &&& 0x3f).toInt64)), .second, .val (.long (((((p1_ &&& (65535 : Int32)).toInt64) * (32 : Int64)) * ((1 : Int64) <<< ((p5_ &&& (7 : Int32)) &&& 0x3f).toInt64)) + (((p3_ &&& (1023 : Int32)).toInt64) * (((((8 : Int32) - ((p4_ &&& (2147483647 : Int32)) % (9 : Int32))).toInt64) * ((1 : Int64) <<< ((p5_ &&& (7 : Int32)) &&& 0x3f).toInt64)) + ((((p4_ &&& (2147483647 : Int32)) % (9 : Int32)).toInt64) * ((p2_ &&& (1048575 : Int32)).toInt64)))))), .second, .val (.long ((((((p0_ % (65536 : Int32)).toInt64) * ((p1_ &&& (65535 : Int32)).toInt64)) * (((p3_ &&& (1023 : Int32)) + (4 : Int32)).toInt64)) * (8 : Int64)) * ((1 : Int64) <<< ((p5_ &&& (7 : Int32)) &&& 0x3f).toInt64))), .second, .val (.ref b7), .val (.double (FP.ddiv (FP.dmul (FP.dmul (FP.i2d (p0_ % (65536 : Int32))) (FP.l2d ((p1_ &&& (65535 : Int32)).toInt64))) (FP.dadd (FP.ddiv (FP.i2d (p3_ &&& (1023 : Int32))) (4616189618054758400 : UInt64)) (4607182418800017408 : UInt64))) (FP.dadd (FP.l2d ((p1_ &&& (65535 : Int32)).toInt64)) (FP.dmul (FP.ddiv (FP.i2d (p3_ &&& (1023 : Int32))) (4616189618054758400 : UInt64)) (FP.dadd (FP.dsub (4607182418800017408 : UInt64) (FP.ddiv (FP.i2d ((p4_ &&& (2147483647 : Int32)) % (9 : Int32))) (4620693217682128896 : UInt64))) (FP.dmul (FP.ddiv (FP.i2d ((p4_ &&& (2147483647 : Int32)) % (9 : Int32))) (4620693217682128896 : UInt64)) (FP.ddiv (FP.l2d ((p2_ &&& (1048575 : Int32)).toInt64)) (FP.l2d ((1 : Int64) <<< ((p5_ &&& (7 : Int32)) &&& 0x3f).toInt64))))))))), .second] [(.double (FP.l2d (((((p1_ &&& (65535 : Int32)).toInt64) * (32 : Int64)) * ((1 : Int64) <<< ((p5_ &&& (7 : Int32)) &&& 0x3f).toInt64)) + (((p3_ &&& (1023 : Int32)).toInt64) * (((((8 : Int32) - ((p4_ &&& (2147483647 : Int32)) % (9 : Int32))).toInt64) * ((1 : Int64) <<< ((p5_ &&& (7 : Int32)) &&& 0x3f).toInt64)) + ((((p4_ &&& (2147483647 : Int32)) % (9 : Int32)).toInt64) * ((p2_ &&& (1048575 : Int32)).toInt64))))))), (.double (FP.l2d ((((((p0_ % (65536 : Int32)).toInt64) * ((p1_ &&& (65535 : Int32)).toInt64)) * (((p3_ &&& (1023 : Int32)) + (4 : Int32)).toInt64)) * (8 : Int64)) * ((1 : Int64) <<< ((p5_ &&& (7 : Int32)) &&& 0x3f).toInt64)))), (.double (FP.ddiv (FP.dmul (FP.dmul (FP.i2d (p0_ % (65536 : Int32))) (FP.l2d ((p1_ &&& (65535 : Int32)).toInt64))) (FP.dadd (FP.ddiv (FP.i2d (p3_ &&& (1023 : Int32))) (4616189618054758400 : UInt64)) (4607182418800017408 : UInt64))) (FP.dadd (FP.l2d ((p1_ &&& (65535 : Int32)).toInt64)) (FP.dmul (FP.ddiv (FP.i2d (p3_ &&& (1023 : Int32))) (4616189618054758400 : UInt64)) (FP.dadd (FP.dsub (4607182418800017408 : UInt64) (FP.ddiv (FP.i2d ((p4_ &&& (2147483647 : Int32)) % (9 : Int32))) (4620693217682128896 : UInt64))) (FP.dmul (FP.ddiv (FP.i2d ((p4_ &&& (2147483647 : Int32)) % (9 : Int32))) (4620693217682128896 : UInt64)) (FP.ddiv (FP.l2d ((p2_ &&& (1048575 : Int32)).toInt64)) (FP.l2d ((1 : Int64) <<< ((p5_ &&& (7 : Int32)) &&& 0x3f).toInt64)))))))))])) _
      refine XS.ddivS X30.here hx rfl (hb hby at_163) rfl hn29 rfl ?_
      show Steps p.tables e below (T30.setTop (mkF m 164 #[.val (.int p0_), .val (.int p1_), .val (.int p2_), .val (.int p3_), .val (.int p4_), .val (.int p5_), .val (.int (p0_ % (65536 : Int32))), .val (.int (p1_ &&& (65535 : Int32))), .val (.int (p2_ &&& (1048575 : Int32))), .val (.int (p3_ &&& (1023 : Int32))), .val (.int ((p4_ &&& (2147483647 : Int32)) % (9 : Int32))), .val (.int (p5_ &&& (7 : Int32))), .val (.long ((1 : Int64) <<< ((p5_ &&& (7 : Int32)) &&& 0x3f).toInt64)), .second, .val (.long (((((p1_ &&& (65535 : Int32)).toInt64) * (32 : Int64)) * ((1 : Int64) <<< ((p5_ &&& (7 : Int32)) &&& 0x3f).toInt64)) + (((p3_ &&& (1023 : Int32)).toInt64) * (((((8 : Int32) - ((p4_ &&& (2147483647 : Int32)) % (9 : Int32))).toInt64) * ((1 : Int64) <<< ((p5_ &&& (7 : Int32)) &&& 0x3f).toInt64)) + ((((p4_ &&& (2147483647 : Int32)) % (9 : Int32)).toInt64) * ((p2_ &&& (1048575 : Int32)).toInt64)))))), .second, .val (.long ((((((p0_ % (65536 : Int32)).toInt64) * ((p1_ &&& (65535 : Int32)).toInt64)) * (((p3_ &&& (1023 : Int32)) + (4 : Int32)).toInt64)) * (8 : Int64)) * ((1 : Int64) <<< ((p5_ &&& (7 : Int32)) &&& 0x3f).toInt64))), .second, .val (.ref b7), .val (.double (FP.ddiv (FP.dmul (FP.dmul (FP.i2d (p0_ % (65536 : Int32))) (FP.l2d ((p1_ &&& (65535 : Int32)).toInt64))) (FP.dadd (FP.ddiv (FP.i2d (p3_ &&& (1023 : Int32))) (4616189618054758400 : UInt64)) (4607182418800017408 : UInt64))) (FP.dadd (FP.l2d ((p1_ &&& (65535 : Int32)).toInt64)) (FP.dmul (FP.ddiv (FP.i2d (p3_ &&& (1023 : Int32))) (4616189618054758400 : UInt64)) (FP.dadd (FP.dsub (4607182418800017408 : UInt64) (FP.ddiv (FP.i2d ((p4_ &&& (2147483647 : Int32)) % (9 : Int32))) (4620693217682128896 : UInt64))) (FP.dmul (FP.ddiv (FP.i2d ((p4_ &&& (2147483647 : Int32)) % (9 : Int32))) (4620693217682128896 : UInt64)) (FP.ddiv (FP.l2d ((p2_ &&& (1048575 : Int32)).toInt64)) (FP.l2d ((1 : Int64) <<< ((p5_ &&& (7 : Int32)) &&& 0x3f).toInt64))))))))), .second] [(.double (FP.ddiv (FP.l2d ((((((p0_ % (65536 : Int32)).toInt64) * ((p1_ &&& (65535 : Int32)).toInt64)) * (((p3_ &&& (1023 : Int32)) + (4 : Int32)).toInt64)) * (8 : Int64)) * ((1 : Int64) <<< ((p5_ &&& (7 : Int32)) &&& 0x3f).toInt64))) (FP.l2d (((((p1_ &&& (65535 : Int32)).toInt64) * (32 : Int64)) * ((1 : Int64) <<< ((p5_ &&& (7 : Int32)) &&& 0x3f).toInt64)) + (((p3_ &&& (1023 : Int32)).toInt64) * (((((8 : Int32) - ((p4_ &&& (2147483647 : Int32)) % (9 : Int32))).toInt64) * ((1 : Int64) <<< ((p5_ &&& (7 : Int32)) &&& 0x3f).toInt64)) + ((((p4_ &&& (2147483647 : Int32)) % (9 : Int32)).toInt64) * ((p2_ &&& (1048575 : Int32)).toInt64)))))))), (.double (FP.ddiv (FP.dmul (FP.dmul (FP.i2d (p0_ % (65536 : Int32))) (FP.l2d ((p1_ &&& (65535 : Int32)).toInt64))) (FP.dadd (FP.ddiv (FP.i2d (p3_ &&& (1023 : Int32))) (4616189618054758400 : UInt64)) (4607182418800017408 : UInt64))) (FP.dadd (FP.l2d ((p1_ &&& (65535 : Int32)).toInt64)) (FP.dmul (FP.ddiv (FP.i2d (p3_ &&& (1023 : Int32))) (4616189618054758400 : UInt64)) (FP.dadd (FP.dsub (4607182418800017408 : UInt64) (FP.ddiv (FP.i2d ((p4_ &&& (2147483647 : Int32)) % (9 : Int32))) (4620693217682128896 : UInt64))) (FP.dmul (FP.ddiv (FP.i2d ((p4_ &&& (2147483647 : Int32)) % (9 : Int32))) (4620693217682128896 : UInt64)) (FP.ddiv (FP.l2d ((p2_ &&& (1048575 : Int32)).toInt64)) (FP.l2d ((1 : Int64) <<< ((p5_ &&& (7 : Int32)) &&& 0x3f).toInt64)))))))))])) _
      refine XS.dcmpS X30.here hx rfl (hb hby at_164) rfl rfl ?_
      show Steps p.tables e below (T30.setTop (mkF m 165 #[.val (.int p0_), .val (.int p1_), .val (.int p2_), .val (.int p3_), .val (.int p4_), .val (.int p5_), .val (.int (p0_ % (65536 : Int32))), .val (.int (p1_ &&& (65535 : Int32))), .val (.int (p2_ &&& (1048575 : Int32))), .val (.int (p3_ &&& (1023 : Int32))), .val (.int ((p4_ &&& (2147483647 : Int32)) % (9 : Int32))), .val (.int (p5_ &&& (7 : Int32))), .val (.long ((1 : Int64) <<< ((p5_ &&& (7 : Int32)) &&& 0x3f).toInt64)), .second, .val (.long (((((p1_ &&& (65535 : Int32)).toInt64) * (32 : Int64)) * ((1 : Int64) <<< ((p5_ &&& (7 : Int32)) &&& 0x3f).toInt64)) + (((p3_ &&& (1023 : Int32)).toInt64) * (((((8 : Int32) - ((p4_ &&& (2147483647 : Int32)) % (9 : Int32))).toInt64) * ((1 : Int64) <<< ((p5_ &&& (7 : Int32)) &&& 0x3f).toInt64)) + ((((p4_ &&& (2147483647 : Int32)) % (9 : Int32)).toInt64) * ((p2_ &&& (1048575 : Int32)).toInt64)))))), .second, .val (.long ((((((p0_ % (65536 : Int32)).toInt64) * ((p1_ &&& (65535 : Int32)).toInt64)) * (((p3_ &&& (1023 : Int32)) + (4 : Int32)).toInt64)) * (8 : Int64)) * ((1 : Int64) <<< ((p5_ &&& (7 : Int32)) &&& 0x3f).toInt64))), .second, .val (.ref b7), .val (.double (FP.ddiv (FP.dmul (FP.dmul (FP.i2d (p0_ % (65536 : Int32))) (FP.l2d ((p1_ &&& (65535 : Int32)).toInt64))) (FP.dadd (FP.ddiv (FP.i2d (p3_ &&& (1023 : Int32))) (4616189618054758400 : UInt64)) (4607182418800017408 : UInt64))) (FP.dadd (FP.l2d ((p1_ &&& (65535 : Int32)).toInt64)) (FP.dmul (FP.ddiv (FP.i2d (p3_ &&& (1023 : Int32))) (4616189618054758400 : UInt64)) (FP.dadd (FP.dsub (4607182418800017408 : UInt64) (FP.ddiv (FP.i2d ((p4_ &&& (2147483647 : Int32)) % (9 : Int32))) (4620693217682128896 : UInt64))) (FP.dmul (FP.ddiv (FP.i2d ((p4_ &&& (2147483647 : Int32)) % (9 : Int32))) (4620693217682128896 : UInt64)) (FP.ddiv (FP.l2d ((p2_ &&& (1048575 : Int32)).toInt64)) (FP.l2d ((1 : Int64) <<< ((p5_ &&& (7 : Int32)) &&& 0x3f).toInt64))))))))), .second] [(.int (cmpValue (FP.dcmp (FP.ddiv (FP.dmul (FP.dmul (FP.i2d (p0_ % (65536 : Int32))) (FP.l2d ((p1_ &&& (65535 : Int32)).toInt64))) (FP.dadd (FP.ddiv (FP.i2d (p3_ &&& (1023 : Int32))) (4616189618054758400 : UInt64)) (4607182418800017408 : UInt64))) (FP.dadd (FP.l2d ((p1_ &&& (65535 : Int32)).toInt64)) (FP.dmul (FP.ddiv (FP.i2d (p3_ &&& (1023 : Int32))) (4616189618054758400 : UInt64)) (FP.dadd (FP.dsub (4607182418800017408 : UInt64) (FP.ddiv (FP.i2d ((p4_ &&& (2147483647 : Int32)) % (9 : Int32))) (4620693217682128896 : UInt64))) (FP.dmul (FP.ddiv (FP.i2d ((p4_ &&& (2147483647 : Int32)) % (9 : Int32))) (4620693217682128896 : UInt64)) (FP.ddiv (FP.l2d ((p2_ &&& (1048575 : Int32)).toInt64)) (FP.l2d ((1 : Int64) <<< ((p5_ &&& (7 : Int32)) &&& 0x3f).toInt64)))))))) (FP.ddiv (FP.l2d ((((((p0_ % (65536 : Int32)).toInt64) * ((p1_ &&& (65535 : Int32)).toInt64)) * (((p3_ &&& (1023 : Int32)) + (4 : Int32)).toInt64)) * (8 : Int64)) * ((1 : Int64) <<< ((p5_ &&& (7 : Int32)) &&& 0x3f).toInt64))) (FP.l2d (((((p1_ &&& (65535 : Int32)).toInt64) * (32 : Int64)) * ((1 : Int64) <<< ((p5_ &&& (7 : Int32)) &&& 0x3f).toInt64)) + (((p3_ &&& (1023 : Int32)).toInt64) * (((((8 : Int32) - ((p4_ &&& (2147483647 : Int32)) % (9 : Int32))).toInt64) * ((1 : Int64) <<< ((p5_ &&& (7 : Int32)) &&& 0x3f).toInt64)) + ((((p4_ &&& (2147483647 : Int32)) % (9 : Int32)).toInt64) * ((p2_ &&& (1048575 : Int32)).toInt64)))))))) .l))])) _
      refine XS.ifNo X30.here hx rfl (hb hby at_165) rfl ((if0 _ _).trans (teq hn33).2) ?_
      show Steps p.tables e below (T30.setTop (mkF m 168 #[.val (.int p0_), .val (.int p1_), .val (.int p2_), .val (.int p3_), .val (.int p4_), .val (.int p5_), .val (.int (p0_ % (65536 : Int32))), .val (.int (p1_ &&& (65535 : Int32))), .val (.int (p2_ &&& (1048575 : Int32))), .val (.int (p3_ &&& (1023 : Int32))), .val (.int ((p4_ &&& (2147483647 : Int32)) % (9 : Int32))), .val (.int (p5_ &&& (7 : Int32))), .val (.long ((1 : Int64) <<< ((p5_ &&& (7 : Int32)) &&& 0x3f).toInt64)), .second, .val (.long (((((p1_ &&& (65535 : Int32)).toInt64) * (32 : Int64)) * ((1 : Int64) <<< ((p5_ &&& (7 : Int32)) &&& 0x3f).toInt64)) + (((p3_ &&& (1023 : Int32)).toInt64) * (((((8 : Int32) - ((p4_ &&& (2147483647 : Int32)) % (9 : Int32))).toInt64) * ((1 : Int64) <<< ((p5_ &&& (7 : Int32)) &&& 0x3f).toInt64)) + ((((p4_ &&& (2147483647 : Int32)) % (9 : Int32)).toInt64) * ((p2_ &&& (1048575 : Int32)).toInt64)))))), .second, .val (.long ((((((p0_ % (65536 : Int32)).toInt64) * ((p1_ &&& (65535 : Int32)).toInt64)) * (((p3_ &&& (1023 : Int32)) + (4 : Int32)).toInt64)) * (8 : Int64)) * ((1 : Int64) <<< ((p5_ &&& (7 : Int32)) &&& 0x3f).toInt64))), .second, .val (.ref b7), .val (.double (FP.ddiv (FP.dmul (FP.dmul (FP.i2d (p0_ % (65536 : Int32))) (FP.l2d ((p1_ &&& (65535 : Int32)).toInt64))) (FP.dadd (FP.ddiv (FP.i2d (p3_ &&& (1023 : Int32))) (4616189618054758400 : UInt64)) (4607182418800017408 : UInt64))) (FP.dadd (FP.l2d ((p1_ &&& (65535 : Int32)).toInt64)) (FP.dmul (FP.ddiv (FP.i2d (p3_ &&& (1023 : Int32))) (4616189618054758400 : UInt64)) (FP.dadd (FP.dsub (4607182418800017408 : UInt64) (FP.ddiv (FP.i2d ((p4_ &&& (2147483647 : Int32)) % (9 : Int32))) (4620693217682128896 : UInt64))) (FP.dmul (FP.ddiv (FP.i2d ((p4_ &&& (2147483647 : Int32)) % (9 : Int32))) (4620693217682128896 : UInt64)) (FP.ddiv (FP.l2d ((p2_ &&& (1048575 : Int32)).toInt64)) (FP.l2d ((1 : Int64) <<< ((p5_ &&& (7 : Int32)) &&& 0x3f).toInt64))))))))), .second] [])) _
      refine XS.iconst X30.here hx rfl (hb hby at_168) ?_
      show Steps p.tables e below (T30.setTop (mkF m 169 #[.val (.int p0_), .val (.int p1_), .val (.int p2_), .val (.int p3_), .val (.int p4_), .val (.int p5_), .val (.int (p0_ % (65536 : Int32))), .val (.int (p1_ &&& (65535 : Int32))), .val (.int (p2_ &&& (1048575 : Int32))), .val (.int (p3_ &&& (1023 : Int32))), .val (.int ((p4_ &&& (2147483647 : Int32)) % (9 : Int32))), .val (.int (p5_ &&& (7 : Int32))), .val (.long ((1 : Int64) <<< ((p5_ &&& (7 : Int32)) &&& 0x3f).toInt64)), .second, .val (.long (((((p1_ &&& (65535 : Int32)).toInt64) * (32 : Int64)) * ((1 : Int64) <<< ((p5_ &&& (7 : Int32)) &&& 0x3f).toInt64)) + (((p3_ &&& (1023 : Int32)).toInt64) * (((((8 : Int32) - ((p4_ &&& (2147483647 : Int32)) % (9 : Int32))).toInt64) * ((1 : Int64) <<< ((p5_ &&& (7 : Int32)) &&& 0x3f).toInt64)) + ((((p4_ &&& (2147483647 : Int32)) % (9 : Int32)).toInt64) * ((p2_ &&& (1048575 : Int32)).toInt64)))))), .second, .val (.long ((((((p0_ % (65536 : Int32)).toInt64) * ((p1_ &&& (65535 : Int32)).toInt64)) * (((p3_ &&& (1023 : Int32)) + (4 : Int32)).toInt64)) * (8 : Int64)) * ((1 : Int64) <<< ((p5_ &&& (7 : Int32)) &&& 0x3f).toInt64))), .second, .val (.ref b7), .val (.double (FP.ddiv (FP.dmul (FP.dmul (FP.i2d (p0_ % (65536 : Int32))) (FP.l2d ((p1_ &&& (65535 : Int32)).toInt64))) (FP.dadd (FP.ddiv (FP.i2d (p3_ &&& (1023 : Int32))) (4616189618054758400 : UInt64)) (4607182418800017408 : UInt64))) (FP.dadd (FP.l2d ((p1_ &&& (65535 : Int32)).toInt64)) (FP.dmul (FP.ddiv (FP.i2d (p3_ &&& (1023 : Int32))) (4616189618054758400 : UInt64)) (FP.dadd (FP.dsub (4607182418800017408 : UInt64) (FP.ddiv (FP.i2d ((p4_ &&& (2147483647 : Int32)) % (9 : Int32))) (4620693217682128896 : UInt64))) (FP.dmul (FP.ddiv (FP.i2d ((p4_ &&& (2147483647 : Int32)) % (9 : Int32))) (4620693217682128896 : UInt64)) (FP.ddiv (FP.l2d ((p2_ &&& (1048575 : Int32)).toInt64)) (FP.l2d ((1 : Int64) <<< ((p5_ &&& (7 : Int32)) &&& 0x3f).toInt64))))))))), .second] [(.int (1 : Int32))])) _
      refine XS.goto X30.here hx rfl (pc0 := 169) (pc' := 173) rfl (hb hby at_169) (by decide) (by decide) ?_
      exact kt
    obtain ⟨fs, hr, hrun, hended, hW, hsame⟩ := X30.leave (v := some (.int (1 : Int32))) (fun h => by rw [Bd.returns] at h; cases h)
    refine ⟨_, _, pre34 _ (retN X30 hx (t := .boolean) Bd.returns (by simp) (hb hby at_173) hr), hrun, hended, _, _, rfl, ?_, ⟨_, rfl⟩, hW, hsame.mono (by decide) (by decide)⟩
    show QLaw Z p0_ p1_ p2_ p3_ p4_ p5_ h0 n0 _ T30.heap _
    rw [e30']
    exact ⟨rfl, N32⟩
set_option maxRecDepth 65536 in
set_option maxHeartbeats 40000000 in
theorem comes_1 {Post : Tables → Env → Array Value → State → Outcome → State → Prop} (hpost : ∀ tb e args s v u, (limb_1_1.after args s (.returned v) u = true ∧ limb_1_2.after args s (.returned v) u = true ∧ True) → FrameEnd s (.returned v) u (Jvm.fieldLocs frame_1_writes args s ++ Jvm.arrayLocs frame_1_arrays args s ++ Jvm.staticLocs frame_1_statics s) 16 128 → Post tb e args s (.returned v) u) :
    ArmFor flags0 classFile x code maxLocals ret World_1 tables_1 room_1 Calls_1 rest_1 Pre_1 Post := by
  intro l hfl _ _ p e ha hc hk s m args below hf hA hF happ hP
  obtain ⟨hcalls, hrest, hpre⟩ := hP
  obtain ⟨-, -, -, hnamed, -, -, -, hat⟩ := (Spec.applies_iff hf).mp happ
  obtain ⟨hg, hn⟩ := and_e (Cond.before_iff.mp (show (Jvm.Cond.and given_1 narrow_1).before args s = true from hpre))
  obtain ⟨g1, g2⟩ := and_e hg
  obtain ⟨g3, g4⟩ := and_e g2
  obtain ⟨g5, g6⟩ := and_e g4
  obtain ⟨g7, g8⟩ := and_e g6
  obtain ⟨g9, g10⟩ := and_e g8
  obtain ⟨g11, g12⟩ := and_e g10
  obtain ⟨w0, w1, w2, w3, w4, w5, rfl⟩ : ∃ w0 w1 w2 w3 w4 w5 : Value, args = #[w0, w1, w2, w3, w4, w5] := by
    have hs : args.size = 6 := by simpa [Cond.value, given_1] using g1
    obtain ⟨L⟩ := args
    match L, hs with
    | [w0, w1, w2, w3, w4, w5], _ => exact ⟨w0, w1, w2, w3, w4, w5, rfl⟩
  have hw := fun d (hd : d ∈ tables_1) => atoms_spec (ws := Jvm.Cond.code x code maxLocals ret :: tables_1) hat d (List.mem_cons_of_mem _ hd)
  have hfit : Fit s := fun {y c} hc i hi => by
    obtain ⟨ha, rfl⟩ := Array.getElem?_eq_some_iff.mp hc
    have q := List.all_eq_true.mp ((Array.all_eq_true_iff_forall_mem.mp hF) _ (Array.getElem_mem ha)) i (List.mem_range.mpr hi)
    simpa [Array.getElem?_eq_getElem hi] using q
  obtain ⟨i0, ei0⟩ := is_v g3
  obtain rfl : w0 = (.int i0) := Option.some.inj ei0
  obtain ⟨i1, ei1⟩ := is_v g5
  obtain rfl : w1 = (.int i1) := Option.some.inj ei1
  obtain ⟨i2, ei2⟩ := is_v g7
  obtain rfl : w2 = (.int i2) := Option.some.inj ei2
  obtain ⟨i3, ei3⟩ := is_v g9
  obtain rfl : w3 = (.int i3) := Option.some.inj ei3
  obtain ⟨i4, ei4⟩ := is_v g11
  obtain rfl : w4 = (.int i4) := Option.some.inj ei4
  obtain ⟨i5, ei5⟩ := is_v g12
  obtain rfl : w5 = (.int i5) := Option.some.inj ei5
  obtain ⟨n, o, h1, h2, h3, _, L, rfl, ⟨rfl, N⟩, hq⟩ := rmLaw l s _ hw tables_1 i0 i1 i2 i3 i4 i5 s.heap s.heap.size (Old.start s)  p e ha hc hk s m _ below hf ((Spec.applies_iff_loose hf).mp happ).1 ⟨rfl, State.Warmed39.refl s, rfl⟩ trivial
  refine ⟨n, _, h1, h2, h3, hpost _ _ _ _ _ _ ⟨Cond.after_iff.mpr rfl, Cond.after_iff.mpr (eq_i res_at (Term.int_eval (1)) rfl), trivial⟩ ⟨hq.1, hq.2.1, (hq.2.2.sift fun y hy => Or.inr (N y hy)).mono (by decide) (by decide)⟩⟩
theorem main_1_1 : Claimed_1_1 := comes_1 fun _ _ _ _ _ _ h hF => ⟨h.1, hF⟩
theorem main_1_2 : Claimed_1_2 := comes_1 fun _ _ _ _ _ _ h hF => ⟨h.2.1, hF⟩
end Jvm.Pilot.@@N@@
namespace Jvm.Pilot.@@N@@
open Jvm Jvm.ClassFile Sem Op Lib Jvm.Free Jvm.Stand Jvm.Pilot.@@N@@.Jvm.D
/-! MADE BY PROGRAM (witnessworld.py) out of the Statement's table words and the real class files: 9 classes; the members and pool entries that the words name. The judged class is class 1, her method 1. -/
namespace start1
open Jvm.ClassFile
def u (s : String) : CpInfo := .utf8 (stringToUtf16 s)
/-- a pool by its gaps: so many unusable entries, then the entry; so many at the end -/
def gap : Nat → List CpInfo → List CpInfo
  | 0, r => r
  | n + 1, r => .unusable :: gap n r
def poolList (es : List (Nat × CpInfo)) (last : Nat) : List CpInfo := es.foldr (fun e r => gap e.1 (e.2 :: r)) (gap last [])
def pool (es : List (Nat × CpInfo)) (last : Nat) : Array CpInfo := ⟨poolList es last⟩
def fileOf (pool : Array CpInfo) (this : Nat) (attrs : Array Attribute := #[]) (ms : Array MethodInfo := #[]) (fl : Nat := 33) (sup : Nat := 0) (ifs : Array Nat := #[]) (fds : Array FieldInfo := #[]) : ClassFile where
  minorVersion := 0
  majorVersion := 65
  constantPool := pool
  accessFlags := fl
  thisClass := this
  superClass := sup
  interfaces := ifs
  fields := fds
  methods := ms
  attributes := attrs
def plain (name : String) (sup : Option ClassId) : Class where
  name := name
  kind := .ordinary
  loader := none
  accessFlags := 33
  super := sup
  interfaces := #[]
  cf := none
  fields := #[]
  methods := #[]
  instanceTypes := #[]
  staticTypes := #[]
  resolved := #[]
  callSites := []
  init := .initialized
  statics := none
  mirror := none

def pool0 : Array CpInfo := pool [(5, u "<init>"), (0, u "()V"), (1, .class_ 10), (1, u "java/lang/Object")] 113

def k0c0 : Code := { maxStack := 0, maxLocals := 1, code := object_method_1_code, exceptionTable := #[], attributes := #[] }
def k0m0 : Method := { name := "<init>", desc := "()V", sig := { parameters := [], returnType := none }, accessFlags := 1, code := some k0c0 }
/-- java/lang/Object -/
def k0 : Class := { plain "java/lang/Object" none with
  accessFlags := 33
  interfaces := #[]
  cf := some (fileOf pool0 8 #[] #[{ accessFlags := 1, nameIndex := 5, descriptorIndex := 6, attributes := #[] }] 33 0 #[] #[])
  fields := #[]
  methods := #[k0m0]
  instanceTypes := #[]
  staticTypes := #[]
  resolved := Array.replicate 124 none
  statics := none }

def pool1 : Array CpInfo := pool [(2, .class_ 4), (1, u "java/lang/Object"), (0, u "<init>"), (0, u "()V"), (0, .integer 65536), (0, .integer 65535), (0, .integer 1048575), (0, .integer 2147483647), (0, .long 32), (1, .long 8), (1, .class_ 16), (0, u "com/example/inquiry_into_concepts/inquiryintoconcepts/ranking/Bm25"), (0, .double 4616189618054758400), (1, .double 4620693217682128896), (1, .methodref 15 22), (0, .nameAndType 5 23), (0, u "(DD)V"), (0, .methodref 15 25), (0, .nameAndType 26 27), (0, u "termScore"), (0, u "(DJJD)D"), (0, .class_ 29), (0, u "com/example/inquiry_into_concepts/inquiryintoconcepts/ranking/Bm25TermScorePinLaw"), (2, u "law"), (0, u "(IIIIII)Z")] 3

def k1m0 : Method := { name := "<init>", desc := "()V", sig := { parameters := [], returnType := none }, accessFlags := 1, code := none }
def k1c1 : Code := { maxStack := 10, maxLocals := 21, code := code, exceptionTable := #[], attributes := #[] }
def k1m1 : Method := { name := "law", desc := "(IIIIII)Z", sig := { parameters := [.int, .int, .int, .int, .int, .int], returnType := some .boolean }, accessFlags := 9, code := some k1c1 }
/-- com/example/inquiry_into_concepts/inquiryintoconcepts/ranking/Bm25TermScorePinLaw -/
def k1 : Class := { plain "com/example/inquiry_into_concepts/inquiryintoconcepts/ranking/Bm25TermScorePinLaw" (some 0) with
  accessFlags := 49
  interfaces := #[]
  cf := some (fileOf pool1 28 #[] #[{ accessFlags := 1, nameIndex := 5, descriptorIndex := 6, attributes := #[] }, { accessFlags := 9, nameIndex := 32, descriptorIndex := 33, attributes := #[] }] 49 2 #[] #[])
  fields := #[]
  methods := #[k1m0, k1m1]
  instanceTypes := #[]
  staticTypes := #[]
  resolved := Array.replicate 37 none
  statics := none }

def pool2 : Array CpInfo := pool [(1, .methodref 2 3), (0, .class_ 4), (0, .nameAndType 5 6), (0, u "java/lang/Object"), (0, u "<init>"), (0, u "()V"), (2, .double 9218868437227405312), (11, .fieldref 22 23), (0, .class_ 24), (0, .nameAndType 25 26), (0, u "com/example/inquiry_into_concepts/inquiryintoconcepts/ranking/Bm25"), (0, u "saturation"), (0, u "D"), (0, .fieldref 22 28), (0, .nameAndType 29 26), (0, u "lengthNormalisation"), (8, u "DEFAULT_K1"), (3, u "DEFAULT_B"), (2, u "(DD)V"), (5, u "termScore"), (0, u "(DJJD)D")] 19

def k2c0 : Code := { maxStack := 4, maxLocals := 5, code := prog_18_method_1_code, exceptionTable := #[], attributes := #[] }
def k2m0 : Method := { name := "<init>", desc := "(DD)V", sig := { parameters := [.double, .double], returnType := none }, accessFlags := 1, code := some k2c0 }
def k2c1 : Code := { maxStack := 8, maxLocals := 13, code := prog_18_method_3_code, exceptionTable := #[], attributes := #[] }
def k2m1 : Method := { name := "termScore", desc := "(DJJD)D", sig := { parameters := [.double, .long, .long, .double], returnType := some .double }, accessFlags := 1, code := some k2c1 }
/-- com/example/inquiry_into_concepts/inquiryintoconcepts/ranking/Bm25 -/
def k2 : Class := { plain "com/example/inquiry_into_concepts/inquiryintoconcepts/ranking/Bm25" (some 0) with
  accessFlags := 49
  interfaces := #[]
  cf := some (fileOf pool2 22 #[] #[{ accessFlags := 1, nameIndex := 5, descriptorIndex := 45, attributes := #[] }, { accessFlags := 1, nameIndex := 51, descriptorIndex := 52, attributes := #[] }] 49 2 #[] #[{ accessFlags := 25, nameIndex := 38, descriptorIndex := 26, attributes := #[] }, { accessFlags := 25, nameIndex := 42, descriptorIndex := 26, attributes := #[] }, { accessFlags := 18, nameIndex := 25, descriptorIndex := 26, attributes := #[] }, { accessFlags := 18, nameIndex := 29, descriptorIndex := 26, attributes := #[] }])
  fields := #[{ name := "DEFAULT_K1", type := .double, accessFlags := 25, slot := 0, constantValue := 0 }, { name := "DEFAULT_B", type := .double, accessFlags := 25, slot := 1, constantValue := 0 }, { name := "saturation", type := .double, accessFlags := 18, slot := 0, constantValue := 0 }, { name := "lengthNormalisation", type := .double, accessFlags := 18, slot := 1, constantValue := 0 }]
  methods := #[k2m0, k2m1]
  instanceTypes := #[.double, .double]
  staticTypes := #[.double, .double]
  resolved := Array.replicate 72 none
  statics := none }

def pool3 : Array CpInfo := pool [(1, u "java/lang/Cloneable"), (0, .class_ 1), (0, u "java/lang/Object"), (0, .class_ 3)] 3

/-- java/lang/Cloneable -/
def k3 : Class := { plain "java/lang/Cloneable" (some 0) with
  accessFlags := 1537
  interfaces := #[]
  cf := some (fileOf pool3 2 #[] #[] 1537 4 #[] #[])
  fields := #[]
  methods := #[]
  instanceTypes := #[]
  staticTypes := #[]
  resolved := Array.replicate 8 none
  statics := none }

def pool4 : Array CpInfo := pool [(1, u "java/io/Serializable"), (0, .class_ 1), (0, u "java/lang/Object"), (0, .class_ 3)] 3

/-- java/io/Serializable -/
def k4 : Class := { plain "java/io/Serializable" (some 0) with
  accessFlags := 1537
  interfaces := #[]
  cf := some (fileOf pool4 2 #[] #[] 1537 4 #[] #[])
  fields := #[]
  methods := #[]
  instanceTypes := #[]
  staticTypes := #[]
  resolved := Array.replicate 8 none
  statics := none }

/-- the primitive byte -/
def k5 : Class := { plain "byte" none with kind := .primitive 'B', accessFlags := 0x411 }
/-- [B -/
def k6 : Class := { plain "[B" (some 0) with kind := .array 5 .byte, interfaces := #[3, 4], accessFlags := 1041 }

/-- the primitive int -/
def k7 : Class := { plain "int" none with kind := .primitive 'I', accessFlags := 0x411 }
/-- [I -/
def k8 : Class := { plain "[I" (some 0) with kind := .array 7 .int, interfaces := #[3, 4], accessFlags := 1041 }

def heap : Heap := #[]
def classes : Array Class := #[k0, k1, k2, k3, k4, k5, k6, k7, k8]
def interned : List (Array UInt16 × Addr) := []
def slotsUsed : Nat := 0
def theMethod : MethodId := ⟨1, 1⟩
def args0 : Array Value := #[.int 5, .int 3, .int 7, .int 5, .int 4, .int 2]
def aboutOver (below : List Frame) : State where
  vm := { classes := classes, interned := interned.toArray }
  heap := heap
  slotsUsed := slotsUsed
  threads := #[{ frames := .invoking theMethod args0 :: below }]
def below0 : List Frame := [.native { method := ⟨0, 0⟩, args := #[] }]
def about1 : State := aboutOver below0
def p0 : Program := .bare "" "" ""
def e0 : Env := launch0.env 0 0 0
theorem w_frames : about1.frames = Frame.invoking theMethod args0 :: below0 := rfl
set_option maxRecDepth 65536 in
theorem w_args : argsFit about1.vm theMethod args0 = true := by decide +kernel
set_option maxRecDepth 65536 in
theorem w_heap : heapFits about1 = true := by decide +kernel
set_option maxRecDepth 65536 in
theorem w_runnable : about1.curStatus? = some .runnable := by decide +kernel
set_option maxRecDepth 65536 in
theorem w_alone : about1.alone = true := by decide +kernel
set_option maxRecDepth 65536 in
theorem w_named : about1.methodNamed? x = some theMethod := by decide +kernel
set_option maxRecDepth 65536 in
theorem w_hears : about1.hears theMethod below0 = true := by decide +kernel
set_option maxRecDepth 65536 in
theorem w_ripe : about1.ripe theMethod args0 below0 = true := by decide +kernel
theorem w_running : about1.status = .running := rfl
set_option maxRecDepth 65536 in
theorem w_room : about1.hasRoom e0.platform room_1 = true :=
  launch0.hasRoom_least _ room_1 (by decide +kernel) (by decide +kernel) (by decide +kernel) (by decide +kernel) (by decide +kernel) (by decide +kernel)
theorem allAtoms_all (ts : List Jvm.Cond) (a : Array Jvm.Value) (st : Jvm.State) : (allAtoms ts).before a st = ts.all (fun c => c.before a st) := by
  induction ts with
  | nil => rfl
  | cons c t ih =>
    show (Jvm.Cond.and c (allAtoms t)).before a st = _
    rw [Jvm.Cond.before_and, ih, List.all_cons]
def words1 : List Jvm.Cond := Jvm.Cond.code x code maxLocals ret :: tables_1
/-- a 'code' word, met by the world's own term for the bytes: nothing is compared byte by byte -/
theorem code_word {y : MethodName} {bytes : ByteArray} {mx : Nat} {rt : Option FieldType} {a : Array Value} {s : State} {m : MethodId} {meth : Method} {c : Code} (h1 : s.methodNamed? y = some m) (h2 : s.vm.method? m = some meth) (h3 : meth.code = some c) (h4 : c.code = bytes)
    (h5 : (c.maxLocals == mx && c.exceptionTable.isEmpty && decide (c.maxStack ≤ mostOperands) && decide (meth.sig.returnType = rt) && !meth.locks && decide (parseMethodDescriptor y.desc = some meth.sig)) = true) : (Jvm.Cond.code y bytes mx rt).before a s = true := by
  simp only [Bool.and_eq_true, beq_iff_eq, Bool.not_eq_true', decide_eq_true_eq] at h5
  obtain ⟨⟨⟨⟨⟨g1, g2⟩, g3⟩, g4⟩, g5⟩, g6⟩ := h5
  simp [Cond.before, Cond.holds, Cond.value, h1, h2, h3, h4, g1, g2, g3, g4, g5, g6]
def isCode : Jvm.Cond → Bool
  | .code _ _ _ _ => true
  | _ => false
theorem all_split {L : List Jvm.Cond} {P : Jvm.Cond → Bool} (h1 : L.all (fun c => isCode c || P c) = true) (h2 : ∀ c ∈ L.filter isCode, P c = true) : L.all P = true := by
  refine List.all_eq_true.mpr fun c hc => ?_
  have h := List.all_eq_true.mp h1 c hc
  rcases Bool.eq_false_or_eq_true (isCode c) with hi | hi
  · exact h2 c (List.mem_filter.mpr ⟨hc, hi⟩)
  · simpa [hi] using h
set_option maxRecDepth 65536 in
theorem w_c0 : (Jvm.Cond.code x code maxLocals ret).before args0 about1 = true := code_word (m := ⟨1, 1⟩) (meth := k1m1) (c := k1c1) (by decide +kernel) rfl rfl rfl (by decide +kernel)
set_option maxRecDepth 65536 in
theorem w_c1 : (Jvm.Cond.code ({ cls := "com/example/inquiry_into_concepts/inquiryintoconcepts/ranking/Bm25", name := "<init>", desc := "(DD)V" } : Jvm.MethodName) prog_18_method_1_code (5 : Nat) (Option.none : Option Jvm.ClassFile.FieldType)).before args0 about1 = true := code_word (m := ⟨2, 0⟩) (meth := k2m0) (c := k2c0) (by decide +kernel) rfl rfl rfl (by decide +kernel)
set_option maxRecDepth 65536 in
theorem w_c2 : (Jvm.Cond.code ({ cls := "java/lang/Object", name := "<init>", desc := "()V" } : Jvm.MethodName) object_method_1_code (1 : Nat) (Option.none : Option Jvm.ClassFile.FieldType)).before args0 about1 = true := code_word (m := ⟨0, 0⟩) (meth := k0m0) (c := k0c0) (by decide +kernel) rfl rfl rfl (by decide +kernel)
set_option maxRecDepth 65536 in
theorem w_c3 : (Jvm.Cond.code ({ cls := "com/example/inquiry_into_concepts/inquiryintoconcepts/ranking/Bm25", name := "termScore", desc := "(DJJD)D" } : Jvm.MethodName) prog_18_method_3_code (13 : Nat) (Option.some Jvm.ClassFile.FieldType.double)).before args0 about1 = true := code_word (m := ⟨2, 1⟩) (meth := k2m1) (c := k2c1) (by decide +kernel) rfl rfl rfl (by decide +kernel)
def codes1 : List Jvm.Cond := [Jvm.Cond.code x code maxLocals ret, Jvm.Cond.code ({ cls := "com/example/inquiry_into_concepts/inquiryintoconcepts/ranking/Bm25", name := "<init>", desc := "(DD)V" } : Jvm.MethodName) prog_18_method_1_code (5 : Nat) (Option.none : Option Jvm.ClassFile.FieldType), Jvm.Cond.code ({ cls := "java/lang/Object", name := "<init>", desc := "()V" } : Jvm.MethodName) object_method_1_code (1 : Nat) (Option.none : Option Jvm.ClassFile.FieldType), Jvm.Cond.code ({ cls := "com/example/inquiry_into_concepts/inquiryintoconcepts/ranking/Bm25", name := "termScore", desc := "(DJJD)D" } : Jvm.MethodName) prog_18_method_3_code (13 : Nat) (Option.some Jvm.ClassFile.FieldType.double)]
set_option maxRecDepth 65536 in
theorem codes_eq : words1.filter isCode = codes1 := rfl
theorem w_codes : ∀ c ∈ words1.filter isCode, c.before args0 about1 = true := by
  rw [codes_eq]
  intro c hc
  simp only [codes1, List.mem_cons, List.not_mem_nil, or_false] at hc
  rcases hc with rfl | rfl | rfl | rfl
  · exact w_c0
  · exact w_c1
  · exact w_c2
  · exact w_c3
set_option maxRecDepth 65536 in
theorem w_t1 : (words1.take 24).all (fun c => isCode c || c.before args0 about1) = true := by decide +kernel
set_option maxRecDepth 65536 in
theorem w_t2 : (words1.drop 24).all (fun c => isCode c || c.before args0 about1) = true := by decide +kernel
theorem w_tables : (allAtoms (Jvm.Cond.code x code maxLocals ret :: tables_1)).before args0 about1 = true := by
  rw [allAtoms_all]
  show words1.all (fun c => c.before args0 about1) = true
  refine all_split ?_ w_codes
  rw [← List.take_append_drop 24 words1, List.all_append, w_t1, w_t2]
  rfl
set_option maxRecDepth 65536 in
theorem w_case : (Jvm.Cond.and given_1 narrow_1).before args0 about1 = true := by decide +kernel
theorem w_applies : (headSpec (Jvm.Cond.code x code maxLocals ret :: tables_1) room_1).applies x e0.platform about1 = true :=
  (Spec.applies_iff w_frames).mpr ⟨w_running, w_runnable, w_alone, w_named, w_hears, w_ripe, w_room, w_tables⟩
theorem atStart : AtStart classFile x code maxLocals ret World_1 tables_1 room_1 Calls_1 rest_1 Pre_1 launch0 p0 e0 about1 theMethod args0 below0 :=
  ⟨lists_1, trivial, launch0.admits_env _ _ _, launch0.least_env, fairChoices_fair.cas, fairChoices_fair.clock, w_frames, w_args, w_heap, w_applies, trivial, trivial, w_case⟩
end start1
theorem witness_1 : WitnessClaimed_1 := ⟨start1.p0, start1.e0, start1.about1, start1.theMethod, start1.args0, start1.below0, start1.atStart⟩
end Jvm.Pilot.@@N@@
