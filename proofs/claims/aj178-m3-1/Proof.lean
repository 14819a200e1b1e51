import JvmDerived
import JvmDerived.Pilot.@@N@@Statement
import JvmDerived.Pilot.@@N@@Code
set_option linter.unusedVariables false
set_option linter.unusedSimpArgs false
namespace Jvm.Pilot.@@N@@
open Jvm Jvm.ClassFile Sem Op Lib Jvm.Free Jvm.Stand Jvm.LawKit Jvm.RoadKit Bundle Jvm.Pilot.@@N@@.Jvm.D

section OwnF
open Jvm.FP.Core
theorem own_pow {c d A B : Nat} {q r : Int} (ea : c * 2 ^ q.toNat = A * 2 ^ (-q).toNat) (eb : d * 2 ^ r.toNat = B * 2 ^ (-r).toNat) : c * B * 2 ^ ((q - r) - 0).toNat = A * d * 2 ^ (0 - (q - r)).toNat := by
  have hx : (q - r - 0).toNat + (-q).toNat + r.toNat = (0 - (q - r)).toNat + q.toNat + (-r).toNat := by omega
  generalize (q - r - 0).toNat = u at *
  generalize (0 - (q - r)).toNat = v at *
  generalize q.toNat = q1 at *
  generalize (-q).toNat = q2 at *
  generalize r.toNat = r1 at *
  generalize (-r).toNat = r2 at *
  have hp : 0 < 2 ^ q1 * 2 ^ r2 := Nat.mul_pos (Nat.two_pow_pos _) (Nat.two_pow_pos _)
  apply Nat.eq_of_mul_eq_mul_right hp
  have e1 : c * B * 2 ^ u * (2 ^ q1 * 2 ^ r2) = (c * 2 ^ q1) * (B * 2 ^ r2) * 2 ^ u := by
    simp only [Nat.mul_assoc, Nat.mul_comm, Nat.mul_left_comm]
  have e2 : A * d * 2 ^ v * (2 ^ q1 * 2 ^ r2) = A * d * 2 ^ (v + q1 + r2) := by
    rw [Nat.pow_add, Nat.pow_add]; simp only [Nat.mul_assoc]
  have e3 : A * 2 ^ q2 * (d * 2 ^ r1) * 2 ^ u = A * d * 2 ^ (u + q2 + r1) := by
    rw [Nat.pow_add, Nat.pow_add]; simp only [Nat.mul_assoc, Nat.mul_comm, Nat.mul_left_comm]
  rw [e1, e2, ea, ← eb, e3, hx]
theorem own_div {a b : Int64} (ha : Small53 a) (hb : Small53 b) (h0 : 0 < b.toInt) : val64 (FP.ddiv (FP.l2d a) (FP.l2d b)) = roundRatio b64 (decide (a.toInt < 0)) a.toInt.natAbs b.toInt.natAbs 0 := by
  obtain ⟨c, q, hc⟩ := l2d_shape a
  obtain ⟨d, r, hd⟩ := l2d_shape b
  have wa := l2d_whole ha
  have wb := l2d_whole hb
  rw [hc] at wa
  rw [hd] at wb
  have d0 : ¬ d = 0 := fun z => by have := (whole_zero wb).mp z; omega
  have e := val64_ddiv (FP.l2d a) (FP.l2d b)
  rw [show val64 (FP.l2d a) = _ from hc, show val64 (FP.l2d b) = _ from hd] at e
  refine e.trans ?_
  show (if d = 0 then (if c = 0 then Datum.nan else .inf _) else roundRatio b64 _ c d (q - r)) = _
  rw [if_neg d0]
  have hs : (decide (a.toInt < 0) != decide (b.toInt < 0)) = decide (a.toInt < 0) := by
    rw [show decide (b.toInt < 0) = false from decide_eq_false (by omega)]; simp
  rw [hs]
  exact roundRatio_congr (Nat.pos_of_ne_zero d0) (by omega) (own_pow (whole_natAbs wa) (whole_natAbs wb))
theorem own_i2d (x : Int32) : val64 (FP.i2d x) = roundRatio b64 (decide (x.toInt < 0)) x.toInt.natAbs 1 0 := val64_i2d x
theorem own_i2d_whole (x : Int32) : Whole x.toInt (val64 (FP.i2d x)) := by
  rw [show FP.i2d x = FP.l2d x.toInt64 from i2d_l2d x]
  have h := l2d_whole (a := x.toInt64) ⟨by rw [Int32.toInt_toInt64]; have := x.le_toInt; omega, by rw [Int32.toInt_toInt64]; have := x.toInt_lt; omega⟩
  rw [Int32.toInt_toInt64] at h; exact h
theorem own_v05 : val64 4602678819172646912 = .fin false (2 ^ 52) (-53) := by decide +kernel
theorem own_half (x : Int32) : val64 (FP.dadd (FP.i2d x) 4602678819172646912) = roundRatio b64 (decide (2 * x.toInt + 1 < 0)) (2 * x.toInt + 1).natAbs 1 (-1) := by
  have w := own_i2d_whole x
  have e := val64_dadd (FP.i2d x) 4602678819172646912
  refine e.trans ?_
  rw [own_v05]
  generalize val64 (FP.i2d x) = y at w
  cases y with
  | nan => exact w.elim
  | inf => exact w.elim
  | fin s c q =>
    have hm1 : min q (-53) ≤ q := Int.min_le_left _ _
    have hm2 : min q (-53) ≤ -53 := Int.min_le_right _ _
    show round b64 (.fin (sumSign s false (sumUnits s c q false (2 ^ 52) (-53) (min q (-53)))) (sumUnits s c q false (2 ^ 52) (-53) (min q (-53))).natAbs (min q (-53))) = _
    have u := whole_units w hm1
    generalize min q (-53) = m at *
    have hv : sumUnits s c q false (2 ^ 52) (-53) m = (2 * x.toInt + 1) * ((2 ^ (-1 - m).toNat : Nat) : Int) := by
      have z : m.toNat = 0 := by omega
      rw [z] at u
      have hD : (-m).toNat = (-1 - m).toNat + 1 := by omega
      rw [hD] at u
      have e2 : inUnits (2 ^ 52) (-53) m = 2 ^ (-1 - m).toNat := by
        show 2 ^ 52 * 2 ^ (-53 - m).toNat = _
        rw [← Nat.pow_add]; congr 1; omega
      show signed s (inUnits c q m) + signed false (inUnits (2 ^ 52) (-53) m) = _
      rw [e2]
      show _ + ((2 ^ (-1 - m).toNat : Nat) : Int) = _
      rw [Nat.pow_succ] at u
      generalize 2 ^ (-1 - m).toNat = D at *
      have u' : signed s (inUnits c q m) = x.toInt * ((D : Int) * 2) := by
        have := u; rw [Int.natCast_mul] at this; simpa using this
      rw [Int.add_mul, Int.one_mul, Int.mul_assoc, u']
      have : x.toInt * ((D : Int) * 2) = 2 * (x.toInt * (D : Int)) := by
        rw [← Int.mul_assoc, Int.mul_comm]
      omega
    have hpos : (0 : Int) < ((2 ^ (-1 - m).toNat : Nat) : Int) := by have := Nat.two_pow_pos (-1 - m).toNat; omega
    rw [hv]
    have hne : ¬ ((2 * x.toInt + 1) * ((2 ^ (-1 - m).toNat : Nat) : Int) = 0) := by
      intro h
      rcases Int.mul_eq_zero.mp h with h | h <;> omega
    have hsg : sumSign s false ((2 * x.toInt + 1) * ((2 ^ (-1 - m).toNat : Nat) : Int)) = decide (2 * x.toInt + 1 < 0) := by
      unfold sumSign
      rw [if_neg hne]
      apply decide_eq_decide.mpr
      constructor
      · intro h
        apply Int.lt_of_not_ge
        intro h2
        have := Int.mul_nonneg h2 (Int.le_of_lt hpos)
        omega
      · intro h
        exact Int.mul_neg_of_neg_of_pos h hpos
    rw [hsg]
    show roundRatio b64 _ _ 1 m = _
    refine roundRatio_congr (by decide) (by decide) ?_
    rw [Int.natAbs_mul, Int.natAbs_natCast, show (m - -1).toNat = 0 by omega]
    simp
theorem own_nn {x : UInt64} {s : Bool} {A B : Nat} {e : Int} (h : val64 x = roundRatio b64 s A B e) : Jvm.Free.Fl.NoNaN64 x := Jvm.Free.Fl.noNaN64_no.mpr ((notNaN_iff x).mpr (by rw [h]; exact roundRatio_ne_nan _ _ _ _ _))
theorem own_eq0 {x y : UInt64} {s : Bool} {A B : Nat} {e : Int} (hx : val64 x = roundRatio b64 s A B e) (hy : val64 y = roundRatio b64 s A B e) (o : ClassFile.CmpOp) : cmpValue (FP.dcmp x y) o = 0 :=
  dcmpV_eq (val64_inj (by rw [hx]; exact roundRatio_ne_nan _ _ _ _ _) (hx.trans hy.symm)) (own_nn hx) o
end OwnF
section OwnH
open Jvm.FP.Core
theorem own_zmag {V : Datum} {M : Int} {K : Nat} (h : zval b64 V = M * (K : Int)) : zmag b64 V = M.natAbs * K := by
  have := congrArg Int.natAbs h
  rw [show zval b64 V = signed (sgn V) (zmag b64 V) from rfl, natAbs_signed, Int.natAbs_mul, Int.natAbs_natCast] at this
  exact this
theorem own_rlo {V : Datum} {a M : Int} {b : Nat} (hb : 0 < b) (fV : FP.Core.fits b64 V) (nV : V ≠ .nan) (hz : zval b64 V = M * ((2 ^ (-b64.qmin).toNat : Nat) : Int)) (h : M * (b : Int) ≤ a) : zval b64 V ≤ zval b64 (roundRatio b64 (decide (a < 0)) a.natAbs b 0) := by
  have hzm := own_zmag hz
  have hs := sgn_roundRatio b64 (decide (a < 0)) a.natAbs b 0
  have hR : zval b64 (roundRatio b64 (decide (a < 0)) a.natAbs b 0) = signed (decide (a < 0)) (zmag b64 (roundRatio b64 (decide (a < 0)) a.natAbs b 0)) := by
    show signed (sgn _) _ = _
    rw [hs]
  have hq : b64.qmin = -1074 := by decide
  have hin : inUnits a.natAbs 0 b64.qmin = a.natAbs * 2 ^ (-b64.qmin).toNat := by
    show _ * 2 ^ (0 - b64.qmin).toNat = _
    rw [Int.zero_sub]
  have h1 : (b64.qmin - b64.qmin).toNat = 0 := by rw [Int.sub_self]; rfl
  have hK := Nat.two_pow_pos (-b64.qmin).toNat
  have le := fun g => zmag_roundRatio_le good_b64 (s := decide (a < 0)) (A := a.natAbs) (B := b) (e := 0) (e0 := b64.qmin) (V := V) hb fV nV (Int.le_refl _) (by rw [hq]; decide) g
  have ge := fun g => zmag_roundRatio_ge good_b64 (s := decide (a < 0)) (A := a.natAbs) (B := b) (e := 0) (e0 := b64.qmin) (V := V) hb fV (Int.le_refl _) (by rw [hq]; decide) g
  rw [hin, hzm, h1, Nat.pow_zero, Nat.mul_one] at le ge
  rw [hR, hz]
  generalize 2 ^ (-b64.qmin).toNat = K at *
  generalize zmag b64 (roundRatio b64 (decide (a < 0)) a.natAbs b 0) = r at *
  by_cases ha : a < 0
  · have hM : M < 0 := by
      apply Int.lt_of_not_ge
      intro z
      have := Int.mul_nonneg z (show (0 : Int) ≤ (b : Int) by omega)
      omega
    rw [show decide (a < 0) = true from decide_eq_true ha]
    show M * (K : Int) ≤ -(r : Int)
    have g := le (by
      have e1 : M.natAbs * K * b = (M.natAbs * b) * K := by rw [Nat.mul_assoc, Nat.mul_comm K b, ← Nat.mul_assoc]
      rw [e1]
      apply Nat.mul_le_mul_right
      have e2 : ((M.natAbs * b : Nat) : Int) = -(M * (b : Int)) := by
        rw [Int.natCast_mul, show ((M.natAbs : Nat) : Int) = -M by omega, Int.neg_mul]
      omega)
    have e3 : ((M.natAbs * K : Nat) : Int) = -(M * (K : Int)) := by
      rw [Int.natCast_mul, show ((M.natAbs : Nat) : Int) = -M by omega, Int.neg_mul]
    omega
  · rw [show decide (a < 0) = false from decide_eq_false ha]
    show M * (K : Int) ≤ (r : Int)
    by_cases hM : M ≤ 0
    · have := Int.mul_nonneg (show (0 : Int) ≤ -M by omega) (show (0 : Int) ≤ (K : Int) by omega)
      rw [Int.neg_mul] at this
      omega
    · have g := ge (by
        have e1 : M.natAbs * K * b = (M.natAbs * b) * K := by rw [Nat.mul_assoc, Nat.mul_comm K b, ← Nat.mul_assoc]
        rw [e1]
        apply Nat.mul_le_mul_right
        have e2 : ((M.natAbs * b : Nat) : Int) = M * (b : Int) := by
          rw [Int.natCast_mul, show ((M.natAbs : Nat) : Int) = M by omega]
        omega)
      have e3 : ((M.natAbs * K : Nat) : Int) = M * (K : Int) := by
        rw [Int.natCast_mul, show ((M.natAbs : Nat) : Int) = M by omega]
      omega
theorem own_rhi {V : Datum} {a M : Int} {b : Nat} (hb : 0 < b) (fV : FP.Core.fits b64 V) (nV : V ≠ .nan) (hz : zval b64 V = M * ((2 ^ (-b64.qmin).toNat : Nat) : Int)) (h : a ≤ M * (b : Int)) : zval b64 (roundRatio b64 (decide (a < 0)) a.natAbs b 0) ≤ zval b64 V := by
  have hzm := own_zmag hz
  have hs := sgn_roundRatio b64 (decide (a < 0)) a.natAbs b 0
  have hR : zval b64 (roundRatio b64 (decide (a < 0)) a.natAbs b 0) = signed (decide (a < 0)) (zmag b64 (roundRatio b64 (decide (a < 0)) a.natAbs b 0)) := by
    show signed (sgn _) _ = _
    rw [hs]
  have hq : b64.qmin = -1074 := by decide
  have hin : inUnits a.natAbs 0 b64.qmin = a.natAbs * 2 ^ (-b64.qmin).toNat := by
    show _ * 2 ^ (0 - b64.qmin).toNat = _
    rw [Int.zero_sub]
  have h1 : (b64.qmin - b64.qmin).toNat = 0 := by rw [Int.sub_self]; rfl
  have hK := Nat.two_pow_pos (-b64.qmin).toNat
  have le := fun g => zmag_roundRatio_le good_b64 (s := decide (a < 0)) (A := a.natAbs) (B := b) (e := 0) (e0 := b64.qmin) (V := V) hb fV nV (Int.le_refl _) (by rw [hq]; decide) g
  have ge := fun g => zmag_roundRatio_ge good_b64 (s := decide (a < 0)) (A := a.natAbs) (B := b) (e := 0) (e0 := b64.qmin) (V := V) hb fV (Int.le_refl _) (by rw [hq]; decide) g
  rw [hin, hzm, h1, Nat.pow_zero, Nat.mul_one] at le ge
  rw [hR, hz]
  generalize 2 ^ (-b64.qmin).toNat = K at *
  generalize zmag b64 (roundRatio b64 (decide (a < 0)) a.natAbs b 0) = r at *
  by_cases ha : a < 0
  · rw [show decide (a < 0) = true from decide_eq_true ha]
    show -(r : Int) ≤ M * (K : Int)
    by_cases hM : 0 ≤ M
    · have := Int.mul_nonneg hM (show (0 : Int) ≤ (K : Int) by omega)
      omega
    · have g := ge (by
        have e1 : M.natAbs * K * b = (M.natAbs * b) * K := by rw [Nat.mul_assoc, Nat.mul_comm K b, ← Nat.mul_assoc]
        rw [e1]
        apply Nat.mul_le_mul_right
        have e2 : ((M.natAbs * b : Nat) : Int) = -(M * (b : Int)) := by
          rw [Int.natCast_mul, show ((M.natAbs : Nat) : Int) = -M by omega, Int.neg_mul]
        omega)
      have e3 : ((M.natAbs * K : Nat) : Int) = -(M * (K : Int)) := by
        rw [Int.natCast_mul, show ((M.natAbs : Nat) : Int) = -M by omega, Int.neg_mul]
      omega
  · rw [show decide (a < 0) = false from decide_eq_false ha]
    show (r : Int) ≤ M * (K : Int)
    have hM : 0 ≤ M := by
      apply Int.le_of_not_gt
      intro z
      have := Int.mul_neg_of_neg_of_pos z (show (0 : Int) < (b : Int) by omega)
      omega
    have g := le (by
      have e1 : M.natAbs * K * b = (M.natAbs * b) * K := by rw [Nat.mul_assoc, Nat.mul_comm K b, ← Nat.mul_assoc]
      rw [e1]
      apply Nat.mul_le_mul_right
      have e2 : ((M.natAbs * b : Nat) : Int) = M * (b : Int) := by
        rw [Int.natCast_mul, show ((M.natAbs : Nat) : Int) = M by omega]
      omega)
    have e3 : ((M.natAbs * K : Nat) : Int) = M * (K : Int) := by
      rw [Int.natCast_mul, show ((M.natAbs : Nat) : Int) = M by omega]
    omega
theorem own_notgt {x y : UInt64} (h : FP.Core.dcmp x y = some .lt ∨ FP.Core.dcmp x y = some .eq) : ¬ ((0 : Int32) < cmpValue (FP.dcmp x y) .g) := by
  rcases h with h | h <;> rw [show FP.dcmp x y = _ from h] <;> decide
theorem own_cmplo {a b L : Int64} (ha : Small53 a) (hb : Small53 b) (h0 : 0 < b.toInt) (hL : Small53 L) (h : L.toInt * b.toInt ≤ a.toInt) : ¬ ((0 : Int32) < cmpValue (FP.dcmp (FP.l2d L) (FP.ddiv (FP.l2d a) (FP.l2d b))) .g) := by
  apply own_notgt
  have w := l2d_whole hL
  refine dcmp_le.mpr ⟨w.ne_nan, ?_, ?_⟩
  · rw [show val64 (FP.Core.ddiv (FP.l2d a) (FP.l2d b)) = _ from own_div ha hb h0]; exact roundRatio_ne_nan _ _ _ _ _
  · rw [show val64 (FP.Core.ddiv (FP.l2d a) (FP.l2d b)) = _ from own_div ha hb h0]
    exact own_rlo (by omega) (val64_fits _) w.ne_nan (whole_zval good_b64 (val64_fits _) w) (by rw [show ((b.toInt.natAbs : Nat) : Int) = b.toInt by omega]; exact h)
theorem own_cmphi {a b L : Int64} (ha : Small53 a) (hb : Small53 b) (h0 : 0 < b.toInt) (hL : Small53 L) (h : a.toInt ≤ L.toInt * b.toInt) : ¬ ((0 : Int32) < cmpValue (FP.dcmp (FP.ddiv (FP.l2d a) (FP.l2d b)) (FP.l2d L)) .g) := by
  apply own_notgt
  have w := l2d_whole hL
  refine dcmp_le.mpr ⟨?_, w.ne_nan, ?_⟩
  · rw [show val64 (FP.Core.ddiv (FP.l2d a) (FP.l2d b)) = _ from own_div ha hb h0]; exact roundRatio_ne_nan _ _ _ _ _
  · rw [show val64 (FP.Core.ddiv (FP.l2d a) (FP.l2d b)) = _ from own_div ha hb h0]
    exact own_rhi (by omega) (val64_fits _) w.ne_nan (whole_zval good_b64 (val64_fits _) w) (by rw [show ((b.toInt.natAbs : Nat) : Int) = b.toInt by omega]; exact h)
end OwnH
section OwnM
open Jvm.FP.Core
theorem own_l2d0 : FP.l2d 0 = (0 : UInt64) := by decide +kernel
theorem own_l2d1 : FP.l2d 1 = (4607182418800017408 : UInt64) := by decide +kernel
theorem own_i2dl (n : Int32) : FP.i2d n = FP.l2d n.toInt64 := i2d_l2d n
theorem own_s53 (n : Int32) : Small53 n.toInt64 := ⟨by rw [c_i2l]; have := rng32 n; omega, by rw [c_i2l]; have := rng32 n; omega⟩
theorem own_notgtL {x y : UInt64} (h : FP.Core.dcmp x y = some .lt ∨ FP.Core.dcmp x y = some .eq) : ¬ ((0 : Int32) < cmpValue (FP.dcmp x y) .l) := by
  rcases h with h | h <;> rw [show FP.dcmp x y = _ from h] <;> decide
theorem own_notltL {x y : UInt64} (h : FP.Core.dcmp x y = some .gt ∨ FP.Core.dcmp x y = some .eq) : ¬ (cmpValue (FP.dcmp x y) .l < (0 : Int32)) := by
  rcases h with h | h <;> rw [show FP.dcmp x y = _ from h] <;> decide
theorem own_isgt {x y : UInt64} {o : CmpOp} (h : FP.Core.dcmp x y = some .gt) : (0 : Int32) < cmpValue (FP.dcmp x y) o := by
  rw [show FP.dcmp x y = _ from h]; cases o <;> decide
theorem own_ge0 {a b : Int64} (ha : Small53 a) (hb : Small53 b) (h0 : 0 < b.toInt) (h : 0 ≤ a.toInt) : ¬ (cmpValue (FP.dcmp (FP.ddiv (FP.l2d a) (FP.l2d b)) (0 : UInt64)) .l < (0 : Int32)) := by
  apply own_notltL
  rw [← own_l2d0]
  have w := l2d_whole (a := 0) ⟨by decide, by decide⟩
  refine dcmp_ge.mpr ⟨?_, w.ne_nan, ?_⟩
  · rw [show val64 (FP.Core.ddiv (FP.l2d a) (FP.l2d b)) = _ from own_div ha hb h0]; exact roundRatio_ne_nan _ _ _ _ _
  · rw [show val64 (FP.Core.ddiv (FP.l2d a) (FP.l2d b)) = _ from own_div ha hb h0]
    exact own_rlo (by omega) (val64_fits _) w.ne_nan (whole_zval good_b64 (val64_fits _) w) (by show (0 : Int) * _ ≤ _; omega)
theorem own_le0 {a b : Int64} (ha : Small53 a) (hb : Small53 b) (h0 : 0 < b.toInt) (h : a.toInt ≤ 0) : ¬ ((0 : Int32) < cmpValue (FP.dcmp (FP.ddiv (FP.l2d a) (FP.l2d b)) (0 : UInt64)) .l) := by
  apply own_notgtL
  rw [← own_l2d0]
  have w := l2d_whole (a := 0) ⟨by decide, by decide⟩
  refine dcmp_le.mpr ⟨?_, w.ne_nan, ?_⟩
  · rw [show val64 (FP.Core.ddiv (FP.l2d a) (FP.l2d b)) = _ from own_div ha hb h0]; exact roundRatio_ne_nan _ _ _ _ _
  · rw [show val64 (FP.Core.ddiv (FP.l2d a) (FP.l2d b)) = _ from own_div ha hb h0]
    exact own_rhi (by omega) (val64_fits _) w.ne_nan (whole_zval good_b64 (val64_fits _) w) (by show _ ≤ (0 : Int) * _; omega)
theorem own_le1 {a b : Int64} (ha : Small53 a) (hb : Small53 b) (h0 : 0 < b.toInt) (h : a.toInt ≤ b.toInt) : ¬ ((0 : Int32) < cmpValue (FP.dcmp (FP.ddiv (FP.l2d a) (FP.l2d b)) (4607182418800017408 : UInt64)) .g) := by
  rw [← own_l2d1]
  exact own_cmphi ha hb h0 ⟨by decide, by decide⟩ (by show _ ≤ (1 : Int) * _; omega)
theorem own_zge {a b : Int64} {V : UInt64} {z : Nat} (ha : Small53 a) (hb : Small53 b) (h0 : 0 < b.toInt) (hp : 0 ≤ a.toInt) (hz : zmag b64 (val64 V) = z) (h : z * b.toInt.natAbs ≤ a.toInt.natAbs * 2 ^ 1074) : ((z : Nat) : Int) ≤ zval b64 (val64 (FP.ddiv (FP.l2d a) (FP.l2d b))) := by
  rw [own_div ha hb h0]
  have hs := sgn_roundRatio b64 (decide (a.toInt < 0)) a.toInt.natAbs b.toInt.natAbs 0
  show _ ≤ signed (sgn _) _
  rw [hs, show decide (a.toInt < 0) = false from decide_eq_false (by omega)]
  have hq : b64.qmin = -1074 := by decide
  have g := zmag_roundRatio_ge good_b64 (s := false) (A := a.toInt.natAbs) (B := b.toInt.natAbs) (e := 0) (e0 := b64.qmin) (V := val64 V) (by omega) (val64_fits _) (Int.le_refl _) (by rw [hq]; decide) (by
    rw [hz, Int.sub_self]
    show z * 1 * _ ≤ a.toInt.natAbs * 2 ^ (0 - b64.qmin).toNat
    rw [Nat.mul_one, hq]
    exact h)
  rw [hz] at g
  show ((z : Nat) : Int) ≤ ((zmag b64 _ : Nat) : Int)
  omega
theorem own_vs : zmag b64 (val64 4463067230724161536) = 2 ^ 1042 := by decide +kernel
theorem own_vb : zmag b64 (val64 4607182418802114560) = 2 ^ 1074 + 2 ^ 1043 := by decide +kernel
theorem own_v1 : zval b64 (val64 4607182418800017408) = ((2 ^ 1074 : Nat) : Int) := by decide +kernel
theorem own_v0 : zval b64 (val64 0) = 0 := by decide +kernel
theorem own_dnn {a b : Int64} (ha : Small53 a) (hb : Small53 b) (h0 : 0 < b.toInt) : val64 (FP.ddiv (FP.l2d a) (FP.l2d b)) ≠ .nan := by
  rw [own_div ha hb h0]; exact roundRatio_ne_nan _ _ _ _ _
theorem own_gt0 {a b : Int64} (ha : Small53 a) (hb : Small53 b) (h0 : 0 < b.toInt) (h1 : b.toInt ≤ 2147483648) (h : 0 < a.toInt) : (0 : Int32) < cmpValue (FP.dcmp (FP.ddiv (FP.l2d a) (FP.l2d b)) (0 : UInt64)) .l := by
  apply own_isgt
  have g := own_zge ha hb h0 (by omega) own_vs (by
    have e1 : (2 : Nat) ^ 1074 = 2 ^ 1042 * 2 ^ 32 := by rw [← Nat.pow_add]
    rw [e1, Nat.mul_comm a.toInt.natAbs, Nat.mul_assoc]
    apply Nat.mul_le_mul_left
    omega)
  have p : (0 : Int) < ((2 ^ 1042 : Nat) : Int) := by have := Nat.two_pow_pos 1042; omega
  refine dcmp_gt.mpr ⟨own_dnn ha hb h0, by decide +kernel, ?_⟩
  have q : zval b64 (val64 0) < zval b64 (val64 (FP.ddiv (FP.l2d a) (FP.l2d b))) := by rw [own_v0]; omega
  exact q
theorem own_gt1 {a b : Int64} (ha : Small53 a) (hb : Small53 b) (h0 : 0 < b.toInt) (h1 : b.toInt ≤ 2147483648) (h : b.toInt < a.toInt) : (0 : Int32) < cmpValue (FP.dcmp (FP.ddiv (FP.l2d a) (FP.l2d b)) (4607182418800017408 : UInt64)) .g := by
  apply own_isgt
  have g := own_zge ha hb h0 (by omega) own_vb (by
    have e1 : (2 : Nat) ^ 1074 = 2 ^ 1043 * 2147483648 := by rw [show (2147483648 : Nat) = 2 ^ 31 from rfl, ← Nat.pow_add]
    rw [e1]
    have e2 : a.toInt.natAbs * (2 ^ 1043 * 2147483648) = 2 ^ 1043 * (a.toInt.natAbs * 2147483648) := by rw [Nat.mul_left_comm]
    have e3 : (2 ^ 1043 * 2147483648 + 2 ^ 1043) * b.toInt.natAbs = 2 ^ 1043 * ((2147483648 + 1) * b.toInt.natAbs) := by
      rw [← Nat.mul_assoc, Nat.mul_add, Nat.mul_one]
    rw [e2, e3]
    apply Nat.mul_le_mul_left
    omega)
  refine dcmp_gt.mpr ⟨own_dnn ha hb h0, by decide +kernel, ?_⟩
  have p : (0 : Int) < ((2 ^ 1043 : Nat) : Int) := by have := Nat.two_pow_pos 1043; omega
  have q : zval b64 (val64 4607182418800017408) < zval b64 (val64 (FP.ddiv (FP.l2d a) (FP.l2d b))) := by
    rw [own_v1]
    rw [Int.natCast_add] at g
    omega
  exact q
end OwnM
section OwnG
open Jvm.FP.Core
theorem own_k (a : Int32) : 0 ≤ ((a &&& (65535 : Int32))).toInt ∧ ((a &&& (65535 : Int32))).toInt ≤ 65535 := by
  have h1 := c_mask a 65535 16 (by decide) (by decide)
  omega
theorem own_65536 : (4679240012837945344 : UInt64) = FP.l2d 65536 := by decide +kernel
theorem own_s65 : Small53 65536 := ⟨by decide, by decide⟩
theorem own_rnn (a : Int32) : Jvm.Free.Fl.NoNaN64 (FP.ddiv (FP.i2d (a &&& (65535 : Int32))) (4679240012837945344 : UInt64)) := by
  rw [own_i2dl, own_65536]
  exact own_nn (own_div (own_s53 _) own_s65 (by decide))
theorem own_rge (a : Int32) : ¬ ((cmpValue (FP.dcmp (FP.ddiv (FP.i2d (a &&& (65535 : Int32))) (4679240012837945344 : UInt64)) (0 : UInt64)) .l) < (0 : Int32)) := by
  rw [own_i2dl, own_65536]
  exact own_ge0 (own_s53 _) own_s65 (by decide) (by rw [c_i2l]; exact (own_k a).1)
theorem own_rle (a : Int32) : ¬ ((0 : Int32) < (cmpValue (FP.dcmp (FP.ddiv (FP.i2d (a &&& (65535 : Int32))) (4679240012837945344 : UInt64)) (4607182418800017408 : UInt64)) .g)) := by
  rw [own_i2dl, own_65536]
  exact own_le1 (own_s53 _) own_s65 (by decide) (by rw [c_i2l]; have := own_k a; show _ ≤ (65536 : Int); omega)
theorem own_it (x : Int32) (h : ¬ ((x &&& (2147483647 : Int32)) = (0 : Int32))) : ¬ ((x &&& (2147483647 : Int32)) < (1 : Int32)) := by
  have h1 := c_mask x 2147483647 31 (by decide) (by decide)
  have h2 : ¬ ((x &&& (2147483647 : Int32)).toInt = 0) := fun z => h (Int32.toInt_inj.mp z)
  have h3 : (1 : Int32).toInt = 1 := rfl
  rw [Int32.lt_iff_toInt_lt]
  omega
end OwnG
theorem d1_0 : decode prog_3_method_7_code 0 = .ok (.dload_n 0, 1) := by decide +kernel
theorem d1_1 : decode prog_3_method_7_code 1 = .ok (.dconst 0, 1) := by decide +kernel
theorem d1_2 : decode prog_3_method_7_code 2 = .ok (.dcmp .l, 1) := by decide +kernel
theorem d1_3 : decode prog_3_method_7_code 3 = .ok (.ifCond .lt 9, 3) := by decide +kernel
theorem d1_6 : decode prog_3_method_7_code 6 = .ok (.dload_n 0, 1) := by decide +kernel
theorem d1_7 : decode prog_3_method_7_code 7 = .ok (.dconst 1, 1) := by decide +kernel
theorem d1_8 : decode prog_3_method_7_code 8 = .ok (.dcmp .g, 1) := by decide +kernel
theorem d1_9 : decode prog_3_method_7_code 9 = .ok (.ifCond .le 17, 3) := by decide +kernel
theorem d1_26 : decode prog_3_method_7_code 26 = .ok (.iload_n 2, 1) := by decide +kernel
theorem d1_27 : decode prog_3_method_7_code 27 = .ok (.iconst 1, 1) := by decide +kernel
theorem d1_28 : decode prog_3_method_7_code 28 = .ok (.if_icmp .ge 17, 3) := by decide +kernel
theorem d1_45 : decode prog_3_method_7_code 45 = .ok (.return_, 1) := by decide +kernel
theorem pn_0 : plainName "com/example/inquiry_into_concepts/inquiryintoconcepts/concepts/ConceptGraph" = true := by first | (simp [plainName, overriddenIn]; done) | decide +kernel
theorem efcheckWalk1 (m : MethodId)  : entryFrame m #[(.double (4607182418800017408 : UInt64)), (.int (1 : Int32))] 3 = mkF m 0 #[.val (.double (4607182418800017408 : UInt64)), .second, .val (.int (1 : Int32))] [] := by first | (simp [entryFrame, mkF, argsToLocals, Value.category]; done) | rfl
def QcheckWalk1 (Z : State)  (h0 : Heap) (n0 : Nat) (v : Option Value) (h : Heap) (L : List Loc) : Prop := v = none ∧ Fr n0 L ∧ h = h0
set_option maxRecDepth 65536 in
set_option maxHeartbeats 40000000 in
theorem rmcheckWalk1 (l : Launch) (Z : State) (a0 : Array Value) (hw : ∀ d ∈ tables_1, d.before a0 Z = true) (ws : List Jvm.Cond)  (h0 : Heap) (n0 : Nat) (O0 : Old Z n0 h0)  :
    MetFree l (⟨"com/example/inquiry_into_concepts/inquiryintoconcepts/concepts/ConceptGraph", "checkWalk", "(DI)V"⟩ : MethodName) (head1 (Jvm.Cond.code (⟨"com/example/inquiry_into_concepts/inquiryintoconcepts/concepts/ConceptGraph", "checkWalk", "(DI)V"⟩ : MethodName) prog_3_method_7_code 3 none :: ws) ({ frames := 0, cells := 0, slots := 0, locals := 0 } : Room)) (fun a U => a = #[(.double (4607182418800017408 : UInt64)), (.int (1 : Int32))] ∧ Z.Warmed39 U.vm ∧ U.heap = h0) (fun _ _ _ _ _ => True) (fun _ U o U' => ∃ v L, o = .returned v ∧ QcheckWalk1 Z  h0 n0 v U'.heap L ∧ FrameEnd U o U' L ({ frames := 0, cells := 0, slots := 0, locals := 0 } : Room).cells ({ frames := 0, cells := 0, slots := 0, locals := 0 } : Room).slots) := by
  refine MetFree.of_bodySF (plainFor_of_name pn_0) hisR ?_
  intro p e s m args below meth c s₁ Bd hml0 hP hK
  obtain ⟨rfl, hZ, hh⟩ := hP
  have hx := Bd.exec
  have hby := Bd.bytes
  have hml : c.maxLocals = 3 := hml0
  have hown : s.vm.findClass "com/example/inquiry_into_concepts/inquiryintoconcepts/concepts/ConceptGraph" = some m.cls := findClass_of_methodNamed Bd.named
  have hnm := (name_of_methodNamed Bd.named Bd.method).1
  have X0 : Stand p l e ({ frames := 0, cells := 0, slots := 0, locals := 0 } : Room) s m #[(.double (4607182418800017408 : UInt64)), (.int (1 : Int32))] below meth c s₁ [] 0 0 := Stand.of_body Bd
  have e0 : s₁.heap = h0 := by rw [← hh, Bd.state]; rfl
  have N0 := Fr.nil n0
  have pre0 : ∀ t, Steps p.tables e below (s₁.setTop (mkF m 0 #[.val (.double (4607182418800017408 : UInt64)), .second, .val (.int (1 : Int32))] [])) t → Steps p.tables e below (s₁.setTop (entryFrame m #[(.double (4607182418800017408 : UInt64)), (.int (1 : Int32))] 3)) t := fun t k => castTop (efcheckWalk1 m ) k
  have K0 : Keep h0 h0 [] := Keep.refl _ _
  have pre1 : ∀ t, Steps p.tables e below (s₁.setTop (mkF m 45 #[.val (.double (4607182418800017408 : UInt64)), .second, .val (.int (1 : Int32))] [])) t → Steps p.tables e below (s₁.setTop (entryFrame m #[(.double (4607182418800017408 : UInt64)), (.int (1 : Int32))] 3)) t := by
    intro t kt
    refine pre0 t ?_
    show Steps p.tables e below (s₁.setTop (mkF m 0 #[.val (.double (4607182418800017408 : UInt64)), .second, .val (.int (1 : Int32))] [])) _
    refine XS.dloadN X0.here hx rfl (hb hby d1_0) rfl ?_
    show Steps p.tables e below (s₁.setTop (mkF m 1 #[.val (.double (4607182418800017408 : UInt64)), .second, .val (.int (1 : Int32))] [(.double (4607182418800017408 : UInt64))])) _
    refine XS.dconst0 X0.here hx rfl (hb hby d1_1) rfl ?_
    show Steps p.tables e below (s₁.setTop (mkF m 2 #[.val (.double (4607182418800017408 : UInt64)), .second, .val (.int (1 : Int32))] [(.double (0 : UInt64)), (.double (4607182418800017408 : UInt64))])) _
    refine XS.dcmpS X0.here hx rfl (hb hby d1_2) rfl rfl ?_
    show Steps p.tables e below (s₁.setTop (mkF m 3 #[.val (.double (4607182418800017408 : UInt64)), .second, .val (.int (1 : Int32))] [(.int (cmpValue (FP.dcmp (4607182418800017408 : UInt64) (0 : UInt64)) .l))])) _
    refine XS.ifNo X0.here hx rfl (hb hby d1_3) rfl ((if0 _ _).trans (flt (by decide +kernel : ¬ ((cmpValue (FP.dcmp (4607182418800017408 : UInt64) (0 : UInt64)) .l) < (0 : Int32)))).1) ?_
    show Steps p.tables e below (s₁.setTop (mkF m 6 #[.val (.double (4607182418800017408 : UInt64)), .second, .val (.int (1 : Int32))] [])) _
    refine XS.dloadN X0.here hx rfl (hb hby d1_6) rfl ?_
    show Steps p.tables e below (s₁.setTop (mkF m 7 #[.val (.double (4607182418800017408 : UInt64)), .second, .val (.int (1 : Int32))] [(.double (4607182418800017408 : UInt64))])) _
    refine XS.dconst1 X0.here hx rfl (hb hby d1_7) rfl ?_
    show Steps p.tables e below (s₁.setTop (mkF m 8 #[.val (.double (4607182418800017408 : UInt64)), .second, .val (.int (1 : Int32))] [(.double (4607182418800017408 : UInt64)), (.double (4607182418800017408 : UInt64))])) _
    refine XS.dcmpS X0.here hx rfl (hb hby d1_8) rfl rfl ?_
    show Steps p.tables e below (s₁.setTop (mkF m 9 #[.val (.double (4607182418800017408 : UInt64)), .second, .val (.int (1 : Int32))] [(.int (cmpValue (FP.dcmp (4607182418800017408 : UInt64) (4607182418800017408 : UInt64)) .g))])) _
    refine XS.ifYes X0.here hx rfl (pc0 := 9) (pc' := 26) rfl (hb hby d1_9) rfl ((if0 _ _).trans (flt (by decide +kernel : ¬ ((0 : Int32) < (cmpValue (FP.dcmp (4607182418800017408 : UInt64) (4607182418800017408 : UInt64)) .g)))).2.2.2) (by decide) (by decide) ?_
    show Steps p.tables e below (s₁.setTop (mkF m 26 #[.val (.double (4607182418800017408 : UInt64)), .second, .val (.int (1 : Int32))] [])) _
    refine XS.iloadN X0.here hx rfl (hb hby d1_26) rfl ?_
    show Steps p.tables e below (s₁.setTop (mkF m 27 #[.val (.double (4607182418800017408 : UInt64)), .second, .val (.int (1 : Int32))] [(.int (1 : Int32))])) _
    refine XS.iconst X0.here hx rfl (hb hby d1_27) ?_
    show Steps p.tables e below (s₁.setTop (mkF m 28 #[.val (.double (4607182418800017408 : UInt64)), .second, .val (.int (1 : Int32))] [(.int (1 : Int32)), (.int (1 : Int32))])) _
    refine XS.icmpYes X0.here hx rfl (pc0 := 28) (pc' := 45) rfl (hb hby d1_28) rfl (flt (by decide : ¬ ((1 : Int32) < (1 : Int32)))).2.1 (by decide) (by decide) ?_
    exact kt
  obtain ⟨fs, hr, hrun, hended, hW, hsame⟩ := X0.leave (v := none) (fun _ => rfl)
  refine ⟨_, _, pre1 _ (X0.returnOut hx Bd.returns (hb hby d1_45) hr), hrun, hended, _, _, rfl, ?_, ⟨_, rfl⟩, hW, hsame.mono (by decide) (by decide)⟩
  show QcheckWalk1 Z  h0 n0 _ s₁.heap _
  rw [e0]
  exact ⟨rfl, N0, rfl⟩
theorem pd_0 : parseMethodDescriptor "(DI)V" = some ⟨[.double, .int], none⟩ := by decide +kernel
theorem efcheckWalk2 (m : MethodId) (x0_ : Int32) : entryFrame m #[(.double (4607182418800017408 : UInt64)), (.int x0_)] 3 = mkF m 0 #[.val (.double (4607182418800017408 : UInt64)), .second, .val (.int x0_)] [] := by first | (simp [entryFrame, mkF, argsToLocals, Value.category]; done) | rfl
def QcheckWalk2 (Z : State) (x0_ : Int32) (h0 : Heap) (n0 : Nat) (v : Option Value) (h : Heap) (L : List Loc) : Prop := v = none ∧ Fr n0 L ∧ h = h0
set_option maxRecDepth 65536 in
set_option maxHeartbeats 40000000 in
theorem rmcheckWalk2 (l : Launch) (Z : State) (a0 : Array Value) (hw : ∀ d ∈ tables_1, d.before a0 Z = true) (ws : List Jvm.Cond) (x0_ : Int32) (h0 : Heap) (n0 : Nat) (O0 : Old Z n0 h0) (ha0 : ¬ (x0_ = (0 : Int32))) (ha1 : ¬ (x0_ < (1 : Int32))) :
    MetFree l (⟨"com/example/inquiry_into_concepts/inquiryintoconcepts/concepts/ConceptGraph", "checkWalk", "(DI)V"⟩ : MethodName) (head1 (Jvm.Cond.code (⟨"com/example/inquiry_into_concepts/inquiryintoconcepts/concepts/ConceptGraph", "checkWalk", "(DI)V"⟩ : MethodName) prog_3_method_7_code 3 none :: ws) ({ frames := 0, cells := 0, slots := 0, locals := 0 } : Room)) (fun a U => a = #[(.double (4607182418800017408 : UInt64)), (.int x0_)] ∧ Z.Warmed39 U.vm ∧ U.heap = h0) (fun _ _ _ _ _ => True) (fun _ U o U' => ∃ v L, o = .returned v ∧ QcheckWalk2 Z x0_ h0 n0 v U'.heap L ∧ FrameEnd U o U' L ({ frames := 0, cells := 0, slots := 0, locals := 0 } : Room).cells ({ frames := 0, cells := 0, slots := 0, locals := 0 } : Room).slots) := by
  refine MetFree.of_bodySF (plainFor_of_name pn_0) hisR ?_
  intro p e s m args below meth c s₁ Bd hml0 hP hK
  obtain ⟨rfl, hZ, hh⟩ := hP
  have hx := Bd.exec
  have hby := Bd.bytes
  have hml : c.maxLocals = 3 := hml0
  have hown : s.vm.findClass "com/example/inquiry_into_concepts/inquiryintoconcepts/concepts/ConceptGraph" = some m.cls := findClass_of_methodNamed Bd.named
  have hnm := (name_of_methodNamed Bd.named Bd.method).1
  have X0 : Stand p l e ({ frames := 0, cells := 0, slots := 0, locals := 0 } : Room) s m #[(.double (4607182418800017408 : UInt64)), (.int x0_)] below meth c s₁ [] 0 0 := Stand.of_body Bd
  have e0 : s₁.heap = h0 := by rw [← hh, Bd.state]; rfl
  have N0 := Fr.nil n0
  have pre0 : ∀ t, Steps p.tables e below (s₁.setTop (mkF m 0 #[.val (.double (4607182418800017408 : UInt64)), .second, .val (.int x0_)] [])) t → Steps p.tables e below (s₁.setTop (entryFrame m #[(.double (4607182418800017408 : UInt64)), (.int x0_)] 3)) t := fun t k => castTop (efcheckWalk2 m x0_) k
  have K0 : Keep h0 h0 [] := Keep.refl _ _
  have pre1 : ∀ t, Steps p.tables e below (s₁.setTop (mkF m 45 #[.val (.double (4607182418800017408 : UInt64)), .second, .val (.int x0_)] [])) t → Steps p.tables e below (s₁.setTop (entryFrame m #[(.double (4607182418800017408 : UInt64)), (.int x0_)] 3)) t := by
    intro t kt
    refine pre0 t ?_
    show Steps p.tables e below (s₁.setTop (mkF m 0 #[.val (.double (4607182418800017408 : UInt64)), .second, .val (.int x0_)] [])) _
    refine XS.dloadN X0.here hx rfl (hb hby d1_0) rfl ?_
    show Steps p.tables e below (s₁.setTop (mkF m 1 #[.val (.double (4607182418800017408 : UInt64)), .second, .val (.int x0_)] [(.double (4607182418800017408 : UInt64))])) _
    refine XS.dconst0 X0.here hx rfl (hb hby d1_1) rfl ?_
    show Steps p.tables e below (s₁.setTop (mkF m 2 #[.val (.double (4607182418800017408 : UInt64)), .second, .val (.int x0_)] [(.double (0 : UInt64)), (.double (4607182418800017408 : UInt64))])) _
    refine XS.dcmpS X0.here hx rfl (hb hby d1_2) rfl rfl ?_
    show Steps p.tables e below (s₁.setTop (mkF m 3 #[.val (.double (4607182418800017408 : UInt64)), .second, .val (.int x0_)] [(.int (cmpValue (FP.dcmp (4607182418800017408 : UInt64) (0 : UInt64)) .l))])) _
    refine XS.ifNo X0.here hx rfl (hb hby d1_3) rfl ((if0 _ _).trans (flt (by decide +kernel : ¬ ((cmpValue (FP.dcmp (4607182418800017408 : UInt64) (0 : UInt64)) .l) < (0 : Int32)))).1) ?_
    show Steps p.tables e below (s₁.setTop (mkF m 6 #[.val (.double (4607182418800017408 : UInt64)), .second, .val (.int x0_)] [])) _
    refine XS.dloadN X0.here hx rfl (hb hby d1_6) rfl ?_
    show Steps p.tables e below (s₁.setTop (mkF m 7 #[.val (.double (4607182418800017408 : UInt64)), .second, .val (.int x0_)] [(.double (4607182418800017408 : UInt64))])) _
    refine XS.dconst1 X0.here hx rfl (hb hby d1_7) rfl ?_
    show Steps p.tables e below (s₁.setTop (mkF m 8 #[.val (.double (4607182418800017408 : UInt64)), .second, .val (.int x0_)] [(.double (4607182418800017408 : UInt64)), (.double (4607182418800017408 : UInt64))])) _
    refine XS.dcmpS X0.here hx rfl (hb hby d1_8) rfl rfl ?_
    show Steps p.tables e below (s₁.setTop (mkF m 9 #[.val (.double (4607182418800017408 : UInt64)), .second, .val (.int x0_)] [(.int (cmpValue (FP.dcmp (4607182418800017408 : UInt64) (4607182418800017408 : UInt64)) .g))])) _
    refine XS.ifYes X0.here hx rfl (pc0 := 9) (pc' := 26) rfl (hb hby d1_9) rfl ((if0 _ _).trans (flt (by decide +kernel : ¬ ((0 : Int32) < (cmpValue (FP.dcmp (4607182418800017408 : UInt64) (4607182418800017408 : UInt64)) .g)))).2.2.2) (by decide) (by decide) ?_
    show Steps p.tables e below (s₁.setTop (mkF m 26 #[.val (.double (4607182418800017408 : UInt64)), .second, .val (.int x0_)] [])) _
    refine XS.iloadN X0.here hx rfl (hb hby d1_26) rfl ?_
    show Steps p.tables e below (s₁.setTop (mkF m 27 #[.val (.double (4607182418800017408 : UInt64)), .second, .val (.int x0_)] [(.int x0_)])) _
    refine XS.iconst X0.here hx rfl (hb hby d1_27) ?_
    show Steps p.tables e below (s₁.setTop (mkF m 28 #[.val (.double (4607182418800017408 : UInt64)), .second, .val (.int x0_)] [(.int (1 : Int32)), (.int x0_)])) _
    refine XS.icmpYes X0.here hx rfl (pc0 := 28) (pc' := 45) rfl (hb hby d1_28) rfl (flt ha1).2.1 (by decide) (by decide) ?_
    exact kt
  obtain ⟨fs, hr, hrun, hended, hW, hsame⟩ := X0.leave (v := none) (fun _ => rfl)
  refine ⟨_, _, pre1 _ (X0.returnOut hx Bd.returns (hb hby d1_45) hr), hrun, hended, _, _, rfl, ?_, ⟨_, rfl⟩, hW, hsame.mono (by decide) (by decide)⟩
  show QcheckWalk2 Z x0_ h0 n0 _ s₁.heap _
  rw [e0]
  exact ⟨rfl, N0, rfl⟩
theorem efcheckWalk3 (m : MethodId)  : entryFrame m #[(.double (0 : UInt64)), (.int (1 : Int32))] 3 = mkF m 0 #[.val (.double (0 : UInt64)), .second, .val (.int (1 : Int32))] [] := by first | (simp [entryFrame, mkF, argsToLocals, Value.category]; done) | rfl
def QcheckWalk3 (Z : State)  (h0 : Heap) (n0 : Nat) (v : Option Value) (h : Heap) (L : List Loc) : Prop := v = none ∧ Fr n0 L ∧ h = h0
set_option maxRecDepth 65536 in
set_option maxHeartbeats 40000000 in
theorem rmcheckWalk3 (l : Launch) (Z : State) (a0 : Array Value) (hw : ∀ d ∈ tables_1, d.before a0 Z = true) (ws : List Jvm.Cond)  (h0 : Heap) (n0 : Nat) (O0 : Old Z n0 h0)  :
    MetFree l (⟨"com/example/inquiry_into_concepts/inquiryintoconcepts/concepts/ConceptGraph", "checkWalk", "(DI)V"⟩ : MethodName) (head1 (Jvm.Cond.code (⟨"com/example/inquiry_into_concepts/inquiryintoconcepts/concepts/ConceptGraph", "checkWalk", "(DI)V"⟩ : MethodName) prog_3_method_7_code 3 none :: ws) ({ frames := 0, cells := 0, slots := 0, locals := 0 } : Room)) (fun a U => a = #[(.double (0 : UInt64)), (.int (1 : Int32))] ∧ Z.Warmed39 U.vm ∧ U.heap = h0) (fun _ _ _ _ _ => True) (fun _ U o U' => ∃ v L, o = .returned v ∧ QcheckWalk3 Z  h0 n0 v U'.heap L ∧ FrameEnd U o U' L ({ frames := 0, cells := 0, slots := 0, locals := 0 } : Room).cells ({ frames := 0, cells := 0, slots := 0, locals := 0 } : Room).slots) := by
  refine MetFree.of_bodySF (plainFor_of_name pn_0) hisR ?_
  intro p e s m args below meth c s₁ Bd hml0 hP hK
  obtain ⟨rfl, hZ, hh⟩ := hP
  have hx := Bd.exec
  have hby := Bd.bytes
  have hml : c.maxLocals = 3 := hml0
  have hown : s.vm.findClass "com/example/inquiry_into_concepts/inquiryintoconcepts/concepts/ConceptGraph" = some m.cls := findClass_of_methodNamed Bd.named
  have hnm := (name_of_methodNamed Bd.named Bd.method).1
  have X0 : Stand p l e ({ frames := 0, cells := 0, slots := 0, locals := 0 } : Room) s m #[(.double (0 : UInt64)), (.int (1 : Int32))] below meth c s₁ [] 0 0 := Stand.of_body Bd
  have e0 : s₁.heap = h0 := by rw [← hh, Bd.state]; rfl
  have N0 := Fr.nil n0
  have pre0 : ∀ t, Steps p.tables e below (s₁.setTop (mkF m 0 #[.val (.double (0 : UInt64)), .second, .val (.int (1 : Int32))] [])) t → Steps p.tables e below (s₁.setTop (entryFrame m #[(.double (0 : UInt64)), (.int (1 : Int32))] 3)) t := fun t k => castTop (efcheckWalk3 m ) k
  have K0 : Keep h0 h0 [] := Keep.refl _ _
  have pre1 : ∀ t, Steps p.tables e below (s₁.setTop (mkF m 45 #[.val (.double (0 : UInt64)), .second, .val (.int (1 : Int32))] [])) t → Steps p.tables e below (s₁.setTop (entryFrame m #[(.double (0 : UInt64)), (.int (1 : Int32))] 3)) t := by
    intro t kt
    refine pre0 t ?_
    show Steps p.tables e below (s₁.setTop (mkF m 0 #[.val (.double (0 : UInt64)), .second, .val (.int (1 : Int32))] [])) _
    refine XS.dloadN X0.here hx rfl (hb hby d1_0) rfl ?_
    show Steps p.tables e below (s₁.setTop (mkF m 1 #[.val (.double (0 : UInt64)), .second, .val (.int (1 : Int32))] [(.double (0 : UInt64))])) _
    refine XS.dconst0 X0.here hx rfl (hb hby d1_1) rfl ?_
    show Steps p.tables e below (s₁.setTop (mkF m 2 #[.val (.double (0 : UInt64)), .second, .val (.int (1 : Int32))] [(.double (0 : UInt64)), (.double (0 : UInt64))])) _
    refine XS.dcmpS X0.here hx rfl (hb hby d1_2) rfl rfl ?_
    show Steps p.tables e below (s₁.setTop (mkF m 3 #[.val (.double (0 : UInt64)), .second, .val (.int (1 : Int32))] [(.int (cmpValue (FP.dcmp (0 : UInt64) (0 : UInt64)) .l))])) _
    refine XS.ifNo X0.here hx rfl (hb hby d1_3) rfl ((if0 _ _).trans (flt (by decide +kernel : ¬ ((cmpValue (FP.dcmp (0 : UInt64) (0 : UInt64)) .l) < (0 : Int32)))).1) ?_
    show Steps p.tables e below (s₁.setTop (mkF m 6 #[.val (.double (0 : UInt64)), .second, .val (.int (1 : Int32))] [])) _
    refine XS.dloadN X0.here hx rfl (hb hby d1_6) rfl ?_
    show Steps p.tables e below (s₁.setTop (mkF m 7 #[.val (.double (0 : UInt64)), .second, .val (.int (1 : Int32))] [(.double (0 : UInt64))])) _
    refine XS.dconst1 X0.here hx rfl (hb hby d1_7) rfl ?_
    show Steps p.tables e below (s₁.setTop (mkF m 8 #[.val (.double (0 : UInt64)), .second, .val (.int (1 : Int32))] [(.double (4607182418800017408 : UInt64)), (.double (0 : UInt64))])) _
    refine XS.dcmpS X0.here hx rfl (hb hby d1_8) rfl rfl ?_
    show Steps p.tables e below (s₁.setTop (mkF m 9 #[.val (.double (0 : UInt64)), .second, .val (.int (1 : Int32))] [(.int (cmpValue (FP.dcmp (0 : UInt64) (4607182418800017408 : UInt64)) .g))])) _
    refine XS.ifYes X0.here hx rfl (pc0 := 9) (pc' := 26) rfl (hb hby d1_9) rfl ((if0 _ _).trans (flt (by decide +kernel : ¬ ((0 : Int32) < (cmpValue (FP.dcmp (0 : UInt64) (4607182418800017408 : UInt64)) .g)))).2.2.2) (by decide) (by decide) ?_
    show Steps p.tables e below (s₁.setTop (mkF m 26 #[.val (.double (0 : UInt64)), .second, .val (.int (1 : Int32))] [])) _
    refine XS.iloadN X0.here hx rfl (hb hby d1_26) rfl ?_
    show Steps p.tables e below (s₁.setTop (mkF m 27 #[.val (.double (0 : UInt64)), .second, .val (.int (1 : Int32))] [(.int (1 : Int32))])) _
    refine XS.iconst X0.here hx rfl (hb hby d1_27) ?_
    show Steps p.tables e below (s₁.setTop (mkF m 28 #[.val (.double (0 : UInt64)), .second, .val (.int (1 : Int32))] [(.int (1 : Int32)), (.int (1 : Int32))])) _
    refine XS.icmpYes X0.here hx rfl (pc0 := 28) (pc' := 45) rfl (hb hby d1_28) rfl (flt (by decide : ¬ ((1 : Int32) < (1 : Int32)))).2.1 (by decide) (by decide) ?_
    exact kt
  obtain ⟨fs, hr, hrun, hended, hW, hsame⟩ := X0.leave (v := none) (fun _ => rfl)
  refine ⟨_, _, pre1 _ (X0.returnOut hx Bd.returns (hb hby d1_45) hr), hrun, hended, _, _, rfl, ?_, ⟨_, rfl⟩, hW, hsame.mono (by decide) (by decide)⟩
  show QcheckWalk3 Z  h0 n0 _ s₁.heap _
  rw [e0]
  exact ⟨rfl, N0, rfl⟩
theorem efcheckWalk4 (m : MethodId) (x0_ : Int32) : entryFrame m #[(.double (0 : UInt64)), (.int x0_)] 3 = mkF m 0 #[.val (.double (0 : UInt64)), .second, .val (.int x0_)] [] := by first | (simp [entryFrame, mkF, argsToLocals, Value.category]; done) | rfl
def QcheckWalk4 (Z : State) (x0_ : Int32) (h0 : Heap) (n0 : Nat) (v : Option Value) (h : Heap) (L : List Loc) : Prop := v = none ∧ Fr n0 L ∧ h = h0
set_option maxRecDepth 65536 in
set_option maxHeartbeats 40000000 in
theorem rmcheckWalk4 (l : Launch) (Z : State) (a0 : Array Value) (hw : ∀ d ∈ tables_1, d.before a0 Z = true) (ws : List Jvm.Cond) (x0_ : Int32) (h0 : Heap) (n0 : Nat) (O0 : Old Z n0 h0) (ha0 : ¬ (x0_ = (0 : Int32))) (ha1 : ¬ (x0_ < (1 : Int32))) :
    MetFree l (⟨"com/example/inquiry_into_concepts/inquiryintoconcepts/concepts/ConceptGraph", "checkWalk", "(DI)V"⟩ : MethodName) (head1 (Jvm.Cond.code (⟨"com/example/inquiry_into_concepts/inquiryintoconcepts/concepts/ConceptGraph", "checkWalk", "(DI)V"⟩ : MethodName) prog_3_method_7_code 3 none :: ws) ({ frames := 0, cells := 0, slots := 0, locals := 0 } : Room)) (fun a U => a = #[(.double (0 : UInt64)), (.int x0_)] ∧ Z.Warmed39 U.vm ∧ U.heap = h0) (fun _ _ _ _ _ => True) (fun _ U o U' => ∃ v L, o = .returned v ∧ QcheckWalk4 Z x0_ h0 n0 v U'.heap L ∧ FrameEnd U o U' L ({ frames := 0, cells := 0, slots := 0, locals := 0 } : Room).cells ({ frames := 0, cells := 0, slots := 0, locals := 0 } : Room).slots) := by
  refine MetFree.of_bodySF (plainFor_of_name pn_0) hisR ?_
  intro p e s m args below meth c s₁ Bd hml0 hP hK
  obtain ⟨rfl, hZ, hh⟩ := hP
  have hx := Bd.exec
  have hby := Bd.bytes
  have hml : c.maxLocals = 3 := hml0
  have hown : s.vm.findClass "com/example/inquiry_into_concepts/inquiryintoconcepts/concepts/ConceptGraph" = some m.cls := findClass_of_methodNamed Bd.named
  have hnm := (name_of_methodNamed Bd.named Bd.method).1
  have X0 : Stand p l e ({ frames := 0, cells := 0, slots := 0, locals := 0 } : Room) s m #[(.double (0 : UInt64)), (.int x0_)] below meth c s₁ [] 0 0 := Stand.of_body Bd
  have e0 : s₁.heap = h0 := by rw [← hh, Bd.state]; rfl
  have N0 := Fr.nil n0
  have pre0 : ∀ t, Steps p.tables e below (s₁.setTop (mkF m 0 #[.val (.double (0 : UInt64)), .second, .val (.int x0_)] [])) t → Steps p.tables e below (s₁.setTop (entryFrame m #[(.double (0 : UInt64)), (.int x0_)] 3)) t := fun t k => castTop (efcheckWalk4 m x0_) k
  have K0 : Keep h0 h0 [] := Keep.refl _ _
  have pre1 : ∀ t, Steps p.tables e below (s₁.setTop (mkF m 45 #[.val (.double (0 : UInt64)), .second, .val (.int x0_)] [])) t → Steps p.tables e below (s₁.setTop (entryFrame m #[(.double (0 : UInt64)), (.int x0_)] 3)) t := by
    intro t kt
    refine pre0 t ?_
    show Steps p.tables e below (s₁.setTop (mkF m 0 #[.val (.double (0 : UInt64)), .second, .val (.int x0_)] [])) _
    refine XS.dloadN X0.here hx rfl (hb hby d1_0) rfl ?_
    show Steps p.tables e below (s₁.setTop (mkF m 1 #[.val (.double (0 : UInt64)), .second, .val (.int x0_)] [(.double (0 : UInt64))])) _
    refine XS.dconst0 X0.here hx rfl (hb hby d1_1) rfl ?_
    show Steps p.tables e below (s₁.setTop (mkF m 2 #[.val (.double (0 : UInt64)), .second, .val (.int x0_)] [(.double (0 : UInt64)), (.double (0 : UInt64))])) _
    refine XS.dcmpS X0.here hx rfl (hb hby d1_2) rfl rfl ?_
    show Steps p.tables e below (s₁.setTop (mkF m 3 #[.val (.double (0 : UInt64)), .second, .val (.int x0_)] [(.int (cmpValue (FP.dcmp (0 : UInt64) (0 : UInt64)) .l))])) _
    refine XS.ifNo X0.here hx rfl (hb hby d1_3) rfl ((if0 _ _).trans (flt (by decide +kernel : ¬ ((cmpValue (FP.dcmp (0 : UInt64) (0 : UInt64)) .l) < (0 : Int32)))).1) ?_
    show Steps p.tables e below (s₁.setTop (mkF m 6 #[.val (.double (0 : UInt64)), .second, .val (.int x0_)] [])) _
    refine XS.dloadN X0.here hx rfl (hb hby d1_6) rfl ?_
    show Steps p.tables e below (s₁.setTop (mkF m 7 #[.val (.double (0 : UInt64)), .second, .val (.int x0_)] [(.double (0 : UInt64))])) _
    refine XS.dconst1 X0.here hx rfl (hb hby d1_7) rfl ?_
    show Steps p.tables e below (s₁.setTop (mkF m 8 #[.val (.double (0 : UInt64)), .second, .val (.int x0_)] [(.double (4607182418800017408 : UInt64)), (.double (0 : UInt64))])) _
    refine XS.dcmpS X0.here hx rfl (hb hby d1_8) rfl rfl ?_
    show Steps p.tables e below (s₁.setTop (mkF m 9 #[.val (.double (0 : UInt64)), .second, .val (.int x0_)] [(.int (cmpValue (FP.dcmp (0 : UInt64) (4607182418800017408 : UInt64)) .g))])) _
    refine XS.ifYes X0.here hx rfl (pc0 := 9) (pc' := 26) rfl (hb hby d1_9) rfl ((if0 _ _).trans (flt (by decide +kernel : ¬ ((0 : Int32) < (cmpValue (FP.dcmp (0 : UInt64) (4607182418800017408 : UInt64)) .g)))).2.2.2) (by decide) (by decide) ?_
    show Steps p.tables e below (s₁.setTop (mkF m 26 #[.val (.double (0 : UInt64)), .second, .val (.int x0_)] [])) _
    refine XS.iloadN X0.here hx rfl (hb hby d1_26) rfl ?_
    show Steps p.tables e below (s₁.setTop (mkF m 27 #[.val (.double (0 : UInt64)), .second, .val (.int x0_)] [(.int x0_)])) _
    refine XS.iconst X0.here hx rfl (hb hby d1_27) ?_
    show Steps p.tables e below (s₁.setTop (mkF m 28 #[.val (.double (0 : UInt64)), .second, .val (.int x0_)] [(.int (1 : Int32)), (.int x0_)])) _
    refine XS.icmpYes X0.here hx rfl (pc0 := 28) (pc' := 45) rfl (hb hby d1_28) rfl (flt ha1).2.1 (by decide) (by decide) ?_
    exact kt
  obtain ⟨fs, hr, hrun, hended, hW, hsame⟩ := X0.leave (v := none) (fun _ => rfl)
  refine ⟨_, _, pre1 _ (X0.returnOut hx Bd.returns (hb hby d1_45) hr), hrun, hended, _, _, rfl, ?_, ⟨_, rfl⟩, hW, hsame.mono (by decide) (by decide)⟩
  show QcheckWalk4 Z x0_ h0 n0 _ s₁.heap _
  rw [e0]
  exact ⟨rfl, N0, rfl⟩
theorem efcheckWalk5 (m : MethodId) (d0_ : UInt64) : entryFrame m #[(.double d0_), (.int (1 : Int32))] 3 = mkF m 0 #[.val (.double d0_), .second, .val (.int (1 : Int32))] [] := by first | (simp [entryFrame, mkF, argsToLocals, Value.category]; done) | rfl
def QcheckWalk5 (Z : State) (d0_ : UInt64) (h0 : Heap) (n0 : Nat) (v : Option Value) (h : Heap) (L : List Loc) : Prop := v = none ∧ Fr n0 L ∧ h = h0
set_option maxRecDepth 65536 in
set_option maxHeartbeats 40000000 in
theorem rmcheckWalk5 (l : Launch) (Z : State) (a0 : Array Value) (hw : ∀ d ∈ tables_1, d.before a0 Z = true) (ws : List Jvm.Cond) (d0_ : UInt64) (h0 : Heap) (n0 : Nat) (O0 : Old Z n0 h0) (ha0 : ¬ ((cmpValue (FP.dcmp d0_ (0 : UInt64)) .l) < (0 : Int32))) (ha1 : ¬ ((0 : Int32) < (cmpValue (FP.dcmp d0_ (4607182418800017408 : UInt64)) .g))) :
    MetFree l (⟨"com/example/inquiry_into_concepts/inquiryintoconcepts/concepts/ConceptGraph", "checkWalk", "(DI)V"⟩ : MethodName) (head1 (Jvm.Cond.code (⟨"com/example/inquiry_into_concepts/inquiryintoconcepts/concepts/ConceptGraph", "checkWalk", "(DI)V"⟩ : MethodName) prog_3_method_7_code 3 none :: ws) ({ frames := 0, cells := 0, slots := 0, locals := 0 } : Room)) (fun a U => a = #[(.double d0_), (.int (1 : Int32))] ∧ Z.Warmed39 U.vm ∧ U.heap = h0) (fun _ _ _ _ _ => True) (fun _ U o U' => ∃ v L, o = .returned v ∧ QcheckWalk5 Z d0_ h0 n0 v U'.heap L ∧ FrameEnd U o U' L ({ frames := 0, cells := 0, slots := 0, locals := 0 } : Room).cells ({ frames := 0, cells := 0, slots := 0, locals := 0 } : Room).slots) := by
  refine MetFree.of_bodySF (plainFor_of_name pn_0) hisR ?_
  intro p e s m args below meth c s₁ Bd hml0 hP hK
  obtain ⟨rfl, hZ, hh⟩ := hP
  have hx := Bd.exec
  have hby := Bd.bytes
  have hml : c.maxLocals = 3 := hml0
  have hown : s.vm.findClass "com/example/inquiry_into_concepts/inquiryintoconcepts/concepts/ConceptGraph" = some m.cls := findClass_of_methodNamed Bd.named
  have hnm := (name_of_methodNamed Bd.named Bd.method).1
  have X0 : Stand p l e ({ frames := 0, cells := 0, slots := 0, locals := 0 } : Room) s m #[(.double d0_), (.int (1 : Int32))] below meth c s₁ [] 0 0 := Stand.of_body Bd
  have e0 : s₁.heap = h0 := by rw [← hh, Bd.state]; rfl
  have N0 := Fr.nil n0
  have pre0 : ∀ t, Steps p.tables e below (s₁.setTop (mkF m 0 #[.val (.double d0_), .second, .val (.int (1 : Int32))] [])) t → Steps p.tables e below (s₁.setTop (entryFrame m #[(.double d0_), (.int (1 : Int32))] 3)) t := fun t k => castTop (efcheckWalk5 m d0_) k
  have K0 : Keep h0 h0 [] := Keep.refl _ _
  have pre1 : ∀ t, Steps p.tables e below (s₁.setTop (mkF m 45 #[.val (.double d0_), .second, .val (.int (1 : Int32))] [])) t → Steps p.tables e below (s₁.setTop (entryFrame m #[(.double d0_), (.int (1 : Int32))] 3)) t := by
    intro t kt
    refine pre0 t ?_
    show Steps p.tables e below (s₁.setTop (mkF m 0 #[.val (.double d0_), .second, .val (.int (1 : Int32))] [])) _
    refine XS.dloadN X0.here hx rfl (hb hby d1_0) rfl ?_
    show Steps p.tables e below (s₁.setTop (mkF m 1 #[.val (.double d0_), .second, .val (.int (1 : Int32))] [(.double d0_)])) _
    refine XS.dconst0 X0.here hx rfl (hb hby d1_1) rfl ?_
    show Steps p.tables e below (s₁.setTop (mkF m 2 #[.val (.double d0_), .second, .val (.int (1 : Int32))] [(.double (0 : UInt64)), (.double d0_)])) _
    refine XS.dcmpS X0.here hx rfl (hb hby d1_2) rfl rfl ?_
    show Steps p.tables e below (s₁.setTop (mkF m 3 #[.val (.double d0_), .second, .val (.int (1 : Int32))] [(.int (cmpValue (FP.dcmp d0_ (0 : UInt64)) .l))])) _
    refine XS.ifNo X0.here hx rfl (hb hby d1_3) rfl ((if0 _ _).trans (flt ha0).1) ?_
    show Steps p.tables e below (s₁.setTop (mkF m 6 #[.val (.double d0_), .second, .val (.int (1 : Int32))] [])) _
    refine XS.dloadN X0.here hx rfl (hb hby d1_6) rfl ?_
    show Steps p.tables e below (s₁.setTop (mkF m 7 #[.val (.double d0_), .second, .val (.int (1 : Int32))] [(.double d0_)])) _
    refine XS.dconst1 X0.here hx rfl (hb hby d1_7) rfl ?_
    show Steps p.tables e below (s₁.setTop (mkF m 8 #[.val (.double d0_), .second, .val (.int (1 : Int32))] [(.double (4607182418800017408 : UInt64)), (.double d0_)])) _
    refine XS.dcmpS X0.here hx rfl (hb hby d1_8) rfl rfl ?_
    show Steps p.tables e below (s₁.setTop (mkF m 9 #[.val (.double d0_), .second, .val (.int (1 : Int32))] [(.int (cmpValue (FP.dcmp d0_ (4607182418800017408 : UInt64)) .g))])) _
    refine XS.ifYes X0.here hx rfl (pc0 := 9) (pc' := 26) rfl (hb hby d1_9) rfl ((if0 _ _).trans (flt ha1).2.2.2) (by decide) (by decide) ?_
    show Steps p.tables e below (s₁.setTop (mkF m 26 #[.val (.double d0_), .second, .val (.int (1 : Int32))] [])) _
    refine XS.iloadN X0.here hx rfl (hb hby d1_26) rfl ?_
    show Steps p.tables e below (s₁.setTop (mkF m 27 #[.val (.double d0_), .second, .val (.int (1 : Int32))] [(.int (1 : Int32))])) _
    refine XS.iconst X0.here hx rfl (hb hby d1_27) ?_
    show Steps p.tables e below (s₁.setTop (mkF m 28 #[.val (.double d0_), .second, .val (.int (1 : Int32))] [(.int (1 : Int32)), (.int (1 : Int32))])) _
    refine XS.icmpYes X0.here hx rfl (pc0 := 28) (pc' := 45) rfl (hb hby d1_28) rfl (flt (by decide : ¬ ((1 : Int32) < (1 : Int32)))).2.1 (by decide) (by decide) ?_
    exact kt
  obtain ⟨fs, hr, hrun, hended, hW, hsame⟩ := X0.leave (v := none) (fun _ => rfl)
  refine ⟨_, _, pre1 _ (X0.returnOut hx Bd.returns (hb hby d1_45) hr), hrun, hended, _, _, rfl, ?_, ⟨_, rfl⟩, hW, hsame.mono (by decide) (by decide)⟩
  show QcheckWalk5 Z d0_ h0 n0 _ s₁.heap _
  rw [e0]
  exact ⟨rfl, N0, rfl⟩
theorem efcheckWalk6 (m : MethodId) (d0_ : UInt64) (x1_ : Int32) : entryFrame m #[(.double d0_), (.int x1_)] 3 = mkF m 0 #[.val (.double d0_), .second, .val (.int x1_)] [] := by first | (simp [entryFrame, mkF, argsToLocals, Value.category]; done) | rfl
def QcheckWalk6 (Z : State) (d0_ : UInt64) (x1_ : Int32) (h0 : Heap) (n0 : Nat) (v : Option Value) (h : Heap) (L : List Loc) : Prop := v = none ∧ Fr n0 L ∧ h = h0
set_option maxRecDepth 65536 in
set_option maxHeartbeats 40000000 in
theorem rmcheckWalk6 (l : Launch) (Z : State) (a0 : Array Value) (hw : ∀ d ∈ tables_1, d.before a0 Z = true) (ws : List Jvm.Cond) (d0_ : UInt64) (x1_ : Int32) (h0 : Heap) (n0 : Nat) (O0 : Old Z n0 h0) (ha0 : ¬ (x1_ = (0 : Int32))) (ha1 : ¬ (x1_ < (1 : Int32))) (ha2 : ¬ ((cmpValue (FP.dcmp d0_ (0 : UInt64)) .l) < (0 : Int32))) (ha3 : ¬ ((0 : Int32) < (cmpValue (FP.dcmp d0_ (4607182418800017408 : UInt64)) .g))) :
    MetFree l (⟨"com/example/inquiry_into_concepts/inquiryintoconcepts/concepts/ConceptGraph", "checkWalk", "(DI)V"⟩ : MethodName) (head1 (Jvm.Cond.code (⟨"com/example/inquiry_into_concepts/inquiryintoconcepts/concepts/ConceptGraph", "checkWalk", "(DI)V"⟩ : MethodName) prog_3_method_7_code 3 none :: ws) ({ frames := 0, cells := 0, slots := 0, locals := 0 } : Room)) (fun a U => a = #[(.double d0_), (.int x1_)] ∧ Z.Warmed39 U.vm ∧ U.heap = h0) (fun _ _ _ _ _ => True) (fun _ U o U' => ∃ v L, o = .returned v ∧ QcheckWalk6 Z d0_ x1_ h0 n0 v U'.heap L ∧ FrameEnd U o U' L ({ frames := 0, cells := 0, slots := 0, locals := 0 } : Room).cells ({ frames := 0, cells := 0, slots := 0, locals := 0 } : Room).slots) := by
  refine MetFree.of_bodySF (plainFor_of_name pn_0) hisR ?_
  intro p e s m args below meth c s₁ Bd hml0 hP hK
  obtain ⟨rfl, hZ, hh⟩ := hP
  have hx := Bd.exec
  have hby := Bd.bytes
  have hml : c.maxLocals = 3 := hml0
  have hown : s.vm.findClass "com/example/inquiry_into_concepts/inquiryintoconcepts/concepts/ConceptGraph" = some m.cls := findClass_of_methodNamed Bd.named
  have hnm := (name_of_methodNamed Bd.named Bd.method).1
  have X0 : Stand p l e ({ frames := 0, cells := 0, slots := 0, locals := 0 } : Room) s m #[(.double d0_), (.int x1_)] below meth c s₁ [] 0 0 := Stand.of_body Bd
  have e0 : s₁.heap = h0 := by rw [← hh, Bd.state]; rfl
  have N0 := Fr.nil n0
  have pre0 : ∀ t, Steps p.tables e below (s₁.setTop (mkF m 0 #[.val (.double d0_), .second, .val (.int x1_)] [])) t → Steps p.tables e below (s₁.setTop (entryFrame m #[(.double d0_), (.int x1_)] 3)) t := fun t k => castTop (efcheckWalk6 m d0_ x1_) k
  have K0 : Keep h0 h0 [] := Keep.refl _ _
  have pre1 : ∀ t, Steps p.tables e below (s₁.setTop (mkF m 45 #[.val (.double d0_), .second, .val (.int x1_)] [])) t → Steps p.tables e below (s₁.setTop (entryFrame m #[(.double d0_), (.int x1_)] 3)) t := by
    intro t kt
    refine pre0 t ?_
    show Steps p.tables e below (s₁.setTop (mkF m 0 #[.val (.double d0_), .second, .val (.int x1_)] [])) _
    refine XS.dloadN X0.here hx rfl (hb hby d1_0) rfl ?_
    show Steps p.tables e below (s₁.setTop (mkF m 1 #[.val (.double d0_), .second, .val (.int x1_)] [(.double d0_)])) _
    refine XS.dconst0 X0.here hx rfl (hb hby d1_1) rfl ?_
    show Steps p.tables e below (s₁.setTop (mkF m 2 #[.val (.double d0_), .second, .val (.int x1_)] [(.double (0 : UInt64)), (.double d0_)])) _
    refine XS.dcmpS X0.here hx rfl (hb hby d1_2) rfl rfl ?_
    show Steps p.tables e below (s₁.setTop (mkF m 3 #[.val (.double d0_), .second, .val (.int x1_)] [(.int (cmpValue (FP.dcmp d0_ (0 : UInt64)) .l))])) _
    refine XS.ifNo X0.here hx rfl (hb hby d1_3) rfl ((if0 _ _).trans (flt ha2).1) ?_
    show Steps p.tables e below (s₁.setTop (mkF m 6 #[.val (.double d0_), .second, .val (.int x1_)] [])) _
    refine XS.dloadN X0.here hx rfl (hb hby d1_6) rfl ?_
    show Steps p.tables e below (s₁.setTop (mkF m 7 #[.val (.double d0_), .second, .val (.int x1_)] [(.double d0_)])) _
    refine XS.dconst1 X0.here hx rfl (hb hby d1_7) rfl ?_
    show Steps p.tables e below (s₁.setTop (mkF m 8 #[.val (.double d0_), .second, .val (.int x1_)] [(.double (4607182418800017408 : UInt64)), (.double d0_)])) _
    refine XS.dcmpS X0.here hx rfl (hb hby d1_8) rfl rfl ?_
    show Steps p.tables e below (s₁.setTop (mkF m 9 #[.val (.double d0_), .second, .val (.int x1_)] [(.int (cmpValue (FP.dcmp d0_ (4607182418800017408 : UInt64)) .g))])) _
    refine XS.ifYes X0.here hx rfl (pc0 := 9) (pc' := 26) rfl (hb hby d1_9) rfl ((if0 _ _).trans (flt ha3).2.2.2) (by decide) (by decide) ?_
    show Steps p.tables e below (s₁.setTop (mkF m 26 #[.val (.double d0_), .second, .val (.int x1_)] [])) _
    refine XS.iloadN X0.here hx rfl (hb hby d1_26) rfl ?_
    show Steps p.tables e below (s₁.setTop (mkF m 27 #[.val (.double d0_), .second, .val (.int x1_)] [(.int x1_)])) _
    refine XS.iconst X0.here hx rfl (hb hby d1_27) ?_
    show Steps p.tables e below (s₁.setTop (mkF m 28 #[.val (.double d0_), .second, .val (.int x1_)] [(.int (1 : Int32)), (.int x1_)])) _
    refine XS.icmpYes X0.here hx rfl (pc0 := 28) (pc' := 45) rfl (hb hby d1_28) rfl (flt ha1).2.1 (by decide) (by decide) ?_
    exact kt
  obtain ⟨fs, hr, hrun, hended, hW, hsame⟩ := X0.leave (v := none) (fun _ => rfl)
  refine ⟨_, _, pre1 _ (X0.returnOut hx Bd.returns (hb hby d1_45) hr), hrun, hended, _, _, rfl, ?_, ⟨_, rfl⟩, hW, hsame.mono (by decide) (by decide)⟩
  show QcheckWalk6 Z d0_ x1_ h0 n0 _ s₁.heap _
  rw [e0]
  exact ⟨rfl, N0, rfl⟩
theorem pn_1 : plainName "com/example/inquiry_into_concepts/inquiryintoconcepts/concepts/ConceptGraphCheckWalkPinLaw" = true := by first | (simp [plainName, overriddenIn]; done) | decide +kernel
theorem efLaw (m : MethodId) (p0_ : Int32) (p1_ : Int32) (p2_ : Int32) : entryFrame m #[(.int p0_), (.int p1_), (.int p2_)] maxLocals = mkF m 0 #[.val (.int p0_), .val (.int p1_), .val (.int p2_), .unset, .unset, .unset, .unset] [] := by first | (simp [entryFrame, mkF, argsToLocals, Value.category, maxLocals]; done) | rfl
def QLaw (Z : State) (p0_ : Int32) (p1_ : Int32) (p2_ : Int32) (h0 : Heap) (n0 : Nat) (v : Option Value) (h : Heap) (L : List Loc) : Prop := v = some (.int (1 : Int32)) ∧ Fr n0 L
set_option maxRecDepth 65536 in
set_option maxHeartbeats 40000000 in
theorem rmLaw (l : Launch) (Z : State) (a0 : Array Value) (hw : ∀ d ∈ tables_1, d.before a0 Z = true) (ws : List Jvm.Cond) (p0_ : Int32) (p1_ : Int32) (p2_ : Int32) (h0 : Heap) (n0 : Nat) (O0 : Old Z n0 h0)  :
    MetFree l x (head1 (Jvm.Cond.code x code maxLocals ret :: ws) room_1) (fun a U => a = #[(.int p0_), (.int p1_), (.int p2_)] ∧ Z.Warmed39 U.vm ∧ U.heap = h0) (fun _ _ _ _ _ => True) (fun _ U o U' => ∃ v L, o = .returned v ∧ QLaw Z p0_ p1_ p2_ h0 n0 v U'.heap L ∧ FrameEnd U o U' L room_1.cells room_1.slots) := by
  refine MetFree.of_bodySF (plainFor_of_name pn_1) hisR ?_
  intro p e s m args below meth c s₁ Bd hml0 hP hK
  obtain ⟨rfl, hZ, hh⟩ := hP
  have hx := Bd.exec
  have hby := Bd.bytes
  have hml : c.maxLocals = 7 := hml0
  have hown : s.vm.findClass "com/example/inquiry_into_concepts/inquiryintoconcepts/concepts/ConceptGraphCheckWalkPinLaw" = some m.cls := findClass_of_methodNamed Bd.named
  have hnm := (name_of_methodNamed Bd.named Bd.method).1
  have X0 : Stand p l e room_1 s m #[(.int p0_), (.int p1_), (.int p2_)] below meth c s₁ [] 0 0 := Stand.of_body Bd
  have e0 : s₁.heap = h0 := by rw [← hh, Bd.state]; rfl
  have N0 := Fr.nil n0
  have pre0 : ∀ t, Steps p.tables e below (s₁.setTop (mkF m 0 #[.val (.int p0_), .val (.int p1_), .val (.int p2_), .unset, .unset, .unset, .unset] [])) t → Steps p.tables e below (s₁.setTop (entryFrame m #[(.int p0_), (.int p1_), (.int p2_)] maxLocals)) t := fun t k => castTop (efLaw m p0_ p1_ p2_) k
  have K0 : Keep h0 h0 [] := Keep.refl _ _
  have pre1 : ∀ t, Steps p.tables e below (s₁.setTop (mkF m 7 #[.val (.int p0_), .val (.int p1_), .val (.int p2_), .unset, .unset, .val (.int (p1_ &&& (3 : Int32))), .unset] [(.int (p1_ &&& (3 : Int32)))])) t → Steps p.tables e below (s₁.setTop (entryFrame m #[(.int p0_), (.int p1_), (.int p2_)] maxLocals)) t := by
    intro t kt
    refine pre0 t ?_
    show Steps p.tables e below (s₁.setTop (mkF m 0 #[.val (.int p0_), .val (.int p1_), .val (.int p2_), .unset, .unset, .unset, .unset] [])) _
    refine XS.iloadN X0.here hx rfl (hb hby at_0) rfl ?_
    show Steps p.tables e below (s₁.setTop (mkF m 1 #[.val (.int p0_), .val (.int p1_), .val (.int p2_), .unset, .unset, .unset, .unset] [(.int p1_)])) _
    refine XS.iconst X0.here hx rfl (hb hby at_1) ?_
    show Steps p.tables e below (s₁.setTop (mkF m 2 #[.val (.int p0_), .val (.int p1_), .val (.int p2_), .unset, .unset, .unset, .unset] [(.int (3 : Int32)), (.int p1_)])) _
    refine XS.iand X0.here hx rfl (hb hby at_2) rfl ?_
    show Steps p.tables e below (s₁.setTop (mkF m 3 #[.val (.int p0_), .val (.int p1_), .val (.int p2_), .unset, .unset, .unset, .unset] [(.int (p1_ &&& (3 : Int32)))])) _
    refine XS.istore X0.here hx rfl (hb hby at_3) rfl (l' := #[.val (.int p0_), .val (.int p1_), .val (.int p2_), .unset, .unset, .val (.int (p1_ &&& (3 : Int32))), .unset]) rfl ?_
    show Steps p.tables e below (s₁.setTop (mkF m 5 #[.val (.int p0_), .val (.int p1_), .val (.int p2_), .unset, .unset, .val (.int (p1_ &&& (3 : Int32))), .unset] [])) _
    refine XS.iload X0.here hx rfl (hb hby at_5) rfl ?_
    exact kt
  by_cases hc2 : (p1_ &&& (3 : Int32)) = (0 : Int32)
  · have pre3 : ∀ t, Steps p.tables e below (s₁.setTop (mkF m 44 #[.val (.int p0_), .val (.int p1_), .val (.int p2_), .val (.double (4607182418800017408 : UInt64)), .second, .val (.int (p1_ &&& (3 : Int32))), .val (.int (p2_ &&& (2147483647 : Int32)))] [(.int (p2_ &&& (2147483647 : Int32)))])) t → Steps p.tables e below (s₁.setTop (entryFrame m #[(.int p0_), (.int p1_), (.int p2_)] maxLocals)) t := by
      intro t kt
      refine pre1 t ?_
      show Steps p.tables e below (s₁.setTop (mkF m 7 #[.val (.int p0_), .val (.int p1_), .val (.int p2_), .unset, .unset, .val (.int (p1_ &&& (3 : Int32))), .unset] [(.int (p1_ &&& (3 : Int32)))])) _
      refine XS.ifNo X0.here hx rfl (hb hby at_7) rfl ((if0 _ _).trans (teq hc2).2) ?_
      show Steps p.tables e below (s₁.setTop (mkF m 10 #[.val (.int p0_), .val (.int p1_), .val (.int p2_), .unset, .unset, .val (.int (p1_ &&& (3 : Int32))), .unset] [])) _
      refine XS.dconst1 X0.here hx rfl (hb hby at_10) rfl ?_
      show Steps p.tables e below (s₁.setTop (mkF m 11 #[.val (.int p0_), .val (.int p1_), .val (.int p2_), .unset, .unset, .val (.int (p1_ &&& (3 : Int32))), .unset] [(.double (4607182418800017408 : UInt64))])) _
      refine XS.dstoreN X0.here hx rfl (hb hby at_11) rfl (l' := #[.val (.int p0_), .val (.int p1_), .val (.int p2_), .val (.double (4607182418800017408 : UInt64)), .second, .val (.int (p1_ &&& (3 : Int32))), .unset]) rfl ?_
      show Steps p.tables e below (s₁.setTop (mkF m 12 #[.val (.int p0_), .val (.int p1_), .val (.int p2_), .val (.double (4607182418800017408 : UInt64)), .second, .val (.int (p1_ &&& (3 : Int32))), .unset] [])) _
      refine XS.goto X0.here hx rfl (pc0 := 12) (pc' := 36) rfl (hb hby at_12) (by decide) (by decide) ?_
      show Steps p.tables e below (s₁.setTop (mkF m 36 #[.val (.int p0_), .val (.int p1_), .val (.int p2_), .val (.double (4607182418800017408 : UInt64)), .second, .val (.int (p1_ &&& (3 : Int32))), .unset] [])) _
      refine XS.iloadN X0.here hx rfl (hb hby at_36) rfl ?_
      show Steps p.tables e below (s₁.setTop (mkF m 37 #[.val (.int p0_), .val (.int p1_), .val (.int p2_), .val (.double (4607182418800017408 : UInt64)), .second, .val (.int (p1_ &&& (3 : Int32))), .unset] [(.int p2_)])) _
      refine X0.ldcInt hx hown (mvT hZ (hw _ (List.mem_of_getElem? (i := 2) rfl))) (g := (mkF m 37 #[.val (.int p0_), .val (.int p1_), .val (.int p2_), .val (.double (4607182418800017408 : UInt64)), .second, .val (.int (p1_ &&& (3 : Int32))), .unset] [(.int p2_)])) rfl (hb hby at_37) _ ?_
      show Steps p.tables e below (s₁.setTop (mkF m 39 #[.val (.int p0_), .val (.int p1_), .val (.int p2_), .val (.double (4607182418800017408 : UInt64)), .second, .val (.int (p1_ &&& (3 : Int32))), .unset] [(.int (2147483647 : Int32)), (.int p2_)])) _
      refine XS.iand X0.here hx rfl (hb hby at_39) rfl ?_
      show Steps p.tables e below (s₁.setTop (mkF m 40 #[.val (.int p0_), .val (.int p1_), .val (.int p2_), .val (.double (4607182418800017408 : UInt64)), .second, .val (.int (p1_ &&& (3 : Int32))), .unset] [(.int (p2_ &&& (2147483647 : Int32)))])) _
      refine XS.istore X0.here hx rfl (hb hby at_40) rfl (l' := #[.val (.int p0_), .val (.int p1_), .val (.int p2_), .val (.double (4607182418800017408 : UInt64)), .second, .val (.int (p1_ &&& (3 : Int32))), .val (.int (p2_ &&& (2147483647 : Int32)))]) rfl ?_
      show Steps p.tables e below (s₁.setTop (mkF m 42 #[.val (.int p0_), .val (.int p1_), .val (.int p2_), .val (.double (4607182418800017408 : UInt64)), .second, .val (.int (p1_ &&& (3 : Int32))), .val (.int (p2_ &&& (2147483647 : Int32)))] [])) _
      refine XS.iload X0.here hx rfl (hb hby at_42) rfl ?_
      exact kt
    by_cases hc4 : (p2_ &&& (2147483647 : Int32)) = (0 : Int32)
    · have hn5 : ¬ ((cmpValue (FP.dcmp (4607182418800017408 : UInt64) (0 : UInt64)) .l) < (0 : Int32)) := by decide +kernel
      have hn6 : ¬ ((0 : Int32) < (cmpValue (FP.dcmp (4607182418800017408 : UInt64) (4607182418800017408 : UInt64)) .g)) := by decide +kernel
      obtain ⟨_, _, ⟨T7, L7, k7, n7⟩, -, X7, ⟨Lc7, hQ7, l7, y7, z7⟩, st7⟩ := Jvm.LawKit.callS X0 hx (y := (⟨"com/example/inquiry_into_concepts/inquiryintoconcepts/concepts/ConceptGraph", "checkWalk", "(DI)V"⟩ : MethodName)) hown (mvT hZ (hw _ (List.mem_of_getElem? (i := 3) rfl))) (mvT hZ (hw _ (List.mem_of_getElem? (i := 4) rfl))) (mvT hZ (hw _ (List.mem_of_getElem? (i := 5) rfl))) (mvT hZ (hw _ (List.mem_of_getElem? (i := 6) rfl))) (by decide) (backOf (W := 0) (rmcheckWalk1 l Z a0 hw []  h0 n0 O0 ) hZ (hw _ (List.mem_of_getElem? (i := 6) rfl)) (hw _ (List.mem_of_getElem? (i := 5) rfl)) (by decide) (by decide)) (g := (mkF m 53 #[.val (.int p0_), .val (.int p1_), .val (.int p2_), .val (.double (4607182418800017408 : UInt64)), .second, .val (.int (p1_ &&& (3 : Int32))), .val (.int (1 : Int32))] [(.int (1 : Int32)), (.double (4607182418800017408 : UInt64))])) rfl (by rw [hml]; rfl) (argsL := [(.double (4607182418800017408 : UInt64)), (.int (1 : Int32))]) (rest := []) (lenOf pd_0 rfl) rfl (by show 2 * 0 + _ ≤ _; exact Nat.le_of_eq rfl) (hb hby at_53) (fun _ _ => ⟨rfl, e0, (by decide : 0 + 0 ≤ _), (by decide : 0 + 0 ≤ _)⟩)
      dsimp only [Pt.U, Pt.locs, Pt.cells, Pt.slots] at X7 l7 y7 z7 st7 hQ7
      subst l7 y7 z7
      obtain ⟨h7, e7⟩ : ∃ z, T7.heap = z := ⟨_, rfl⟩
      rw [e7] at hQ7
      obtain ⟨rfl, N7q, hh7⟩ := hQ7
      have N8 := Fr.app N0 N7q
      have e7' : T7.heap = h0 := e7.trans hh7
      have pre9 : ∀ t, Steps p.tables e below (T7.setTop (mkF m 57 #[.val (.int p0_), .val (.int p1_), .val (.int p2_), .val (.double (4607182418800017408 : UInt64)), .second, .val (.int (p1_ &&& (3 : Int32))), .val (.int (1 : Int32))] [(.int (1 : Int32))])) t → Steps p.tables e below (s₁.setTop (entryFrame m #[(.int p0_), (.int p1_), (.int p2_)] maxLocals)) t := by
        intro t kt
        refine pre3 t ?_
        show Steps p.tables e below (s₁.setTop (mkF m 44 #[.val (.int p0_), .val (.int p1_), .val (.int p2_), .val (.double (4607182418800017408 : UInt64)), .second, .val (.int (p1_ &&& (3 : Int32))), .val (.int (p2_ &&& (2147483647 : Int32)))] [(.int (p2_ &&& (2147483647 : Int32)))])) _
        refine XS.ifNo X0.here hx rfl (hb hby at_44) rfl ((if0 _ _).trans (teq hc4).2) ?_
        show Steps p.tables e below (s₁.setTop (mkF m 47 #[.val (.int p0_), .val (.int p1_), .val (.int p2_), .val (.double (4607182418800017408 : UInt64)), .second, .val (.int (p1_ &&& (3 : Int32))), .val (.int (p2_ &&& (2147483647 : Int32)))] [])) _
        refine XS.iconst X0.here hx rfl (hb hby at_47) ?_
        show Steps p.tables e below (s₁.setTop (mkF m 48 #[.val (.int p0_), .val (.int p1_), .val (.int p2_), .val (.double (4607182418800017408 : UInt64)), .second, .val (.int (p1_ &&& (3 : Int32))), .val (.int (p2_ &&& (2147483647 : Int32)))] [(.int (1 : Int32))])) _
        refine XS.istore X0.here hx rfl (hb hby at_48) rfl (l' := #[.val (.int p0_), .val (.int p1_), .val (.int p2_), .val (.double (4607182418800017408 : UInt64)), .second, .val (.int (p1_ &&& (3 : Int32))), .val (.int (1 : Int32))]) rfl ?_
        show Steps p.tables e below (s₁.setTop (mkF m 50 #[.val (.int p0_), .val (.int p1_), .val (.int p2_), .val (.double (4607182418800017408 : UInt64)), .second, .val (.int (p1_ &&& (3 : Int32))), .val (.int (1 : Int32))] [])) _
        refine XS.dloadN X0.here hx rfl (hb hby at_50) rfl ?_
        show Steps p.tables e below (s₁.setTop (mkF m 51 #[.val (.int p0_), .val (.int p1_), .val (.int p2_), .val (.double (4607182418800017408 : UInt64)), .second, .val (.int (p1_ &&& (3 : Int32))), .val (.int (1 : Int32))] [(.double (4607182418800017408 : UInt64))])) _
        refine XS.iload X0.here hx rfl (hb hby at_51) rfl ?_
        show Steps p.tables e below (s₁.setTop (mkF m 53 #[.val (.int p0_), .val (.int p1_), .val (.int p2_), .val (.double (4607182418800017408 : UInt64)), .second, .val (.int (p1_ &&& (3 : Int32))), .val (.int (1 : Int32))] [(.int (1 : Int32)), (.double (4607182418800017408 : UInt64))])) _
        refine st7 _ ?_
        show Steps p.tables e below (T7.setTop (mkF m 56 #[.val (.int p0_), .val (.int p1_), .val (.int p2_), .val (.double (4607182418800017408 : UInt64)), .second, .val (.int (p1_ &&& (3 : Int32))), .val (.int (1 : Int32))] [])) _
        refine XS.iconst X7.here hx rfl (hb hby at_56) ?_
        exact kt
      obtain ⟨fs, hr, hrun, hended, hW, hsame⟩ := X7.leave (v := some (.int (1 : Int32))) (fun h => by rw [Bd.returns] at h; cases h)
      refine ⟨_, _, pre9 _ (retN X7 hx (t := .boolean) Bd.returns (by simp) (hb hby at_57) hr), hrun, hended, _, _, rfl, ?_, ⟨_, rfl⟩, hW, hsame.mono (by decide) (by decide)⟩
      show QLaw Z p0_ p1_ p2_ h0 n0 _ T7.heap _
      rw [e7']
      exact ⟨rfl, N8⟩
    · have hn11 : ¬ ((p2_ &&& (2147483647 : Int32)) < (1 : Int32)) := own_it p2_ hc4
      have hn12 : ¬ ((cmpValue (FP.dcmp (4607182418800017408 : UInt64) (0 : UInt64)) .l) < (0 : Int32)) := by decide +kernel
      have hn13 : ¬ ((0 : Int32) < (cmpValue (FP.dcmp (4607182418800017408 : UInt64) (4607182418800017408 : UInt64)) .g)) := by decide +kernel
      obtain ⟨_, _, ⟨T14, L14, k14, n14⟩, -, X14, ⟨Lc14, hQ14, l14, y14, z14⟩, st14⟩ := Jvm.LawKit.callS X0 hx (y := (⟨"com/example/inquiry_into_concepts/inquiryintoconcepts/concepts/ConceptGraph", "checkWalk", "(DI)V"⟩ : MethodName)) hown (mvT hZ (hw _ (List.mem_of_getElem? (i := 3) rfl))) (mvT hZ (hw _ (List.mem_of_getElem? (i := 4) rfl))) (mvT hZ (hw _ (List.mem_of_getElem? (i := 5) rfl))) (mvT hZ (hw _ (List.mem_of_getElem? (i := 6) rfl))) (by decide) (backOf (W := 0) (rmcheckWalk2 l Z a0 hw [] (p2_ &&& (2147483647 : Int32)) h0 n0 O0 hc4 hn11) hZ (hw _ (List.mem_of_getElem? (i := 6) rfl)) (hw _ (List.mem_of_getElem? (i := 5) rfl)) (by decide) (by decide)) (g := (mkF m 53 #[.val (.int p0_), .val (.int p1_), .val (.int p2_), .val (.double (4607182418800017408 : UInt64)), .second, .val (.int (p1_ &&& (3 : Int32))), .val (.int (p2_ &&& (2147483647 : Int32)))] [(.int (p2_ &&& (2147483647 : Int32))), (.double (4607182418800017408 : UInt64))])) rfl (by rw [hml]; rfl) (argsL := [(.double (4607182418800017408 : UInt64)), (.int (p2_ &&& (2147483647 : Int32)))]) (rest := []) (lenOf pd_0 rfl) rfl (by show 2 * 0 + _ ≤ _; exact Nat.le_of_eq rfl) (hb hby at_53) (fun _ _ => ⟨rfl, e0, (by decide : 0 + 0 ≤ _), (by decide : 0 + 0 ≤ _)⟩)
      dsimp only [Pt.U, Pt.locs, Pt.cells, Pt.slots] at X14 l14 y14 z14 st14 hQ14
      subst l14 y14 z14
      obtain ⟨h14, e14⟩ : ∃ z, T14.heap = z := ⟨_, rfl⟩
      rw [e14] at hQ14
      obtain ⟨rfl, N14q, hh14⟩ := hQ14
      have N15 := Fr.app N0 N14q
      have e14' : T14.heap = h0 := e14.trans hh14
      have pre16 : ∀ t, Steps p.tables e below (T14.setTop (mkF m 57 #[.val (.int p0_), .val (.int p1_), .val (.int p2_), .val (.double (4607182418800017408 : UInt64)), .second, .val (.int (p1_ &&& (3 : Int32))), .val (.int (p2_ &&& (2147483647 : Int32)))] [(.int (1 : Int32))])) t → Steps p.tables e below (s₁.setTop (entryFrame m #[(.int p0_), (.int p1_), (.int p2_)] maxLocals)) t := by
        intro t kt
        refine pre3 t ?_
        show Steps p.tables e below (s₁.setTop (mkF m 44 #[.val (.int p0_), .val (.int p1_), .val (.int p2_), .val (.double (4607182418800017408 : UInt64)), .second, .val (.int (p1_ &&& (3 : Int32))), .val (.int (p2_ &&& (2147483647 : Int32)))] [(.int (p2_ &&& (2147483647 : Int32)))])) _
        refine XS.ifYes X0.here hx rfl (pc0 := 44) (pc' := 50) rfl (hb hby at_44) rfl ((if0 _ _).trans (feq hc4).2) (by decide) (by decide) ?_
        show Steps p.tables e below (s₁.setTop (mkF m 50 #[.val (.int p0_), .val (.int p1_), .val (.int p2_), .val (.double (4607182418800017408 : UInt64)), .second, .val (.int (p1_ &&& (3 : Int32))), .val (.int (p2_ &&& (2147483647 : Int32)))] [])) _
        refine XS.dloadN X0.here hx rfl (hb hby at_50) rfl ?_
        show Steps p.tables e below (s₁.setTop (mkF m 51 #[.val (.int p0_), .val (.int p1_), .val (.int p2_), .val (.double (4607182418800017408 : UInt64)), .second, .val (.int (p1_ &&& (3 : Int32))), .val (.int (p2_ &&& (2147483647 : Int32)))] [(.double (4607182418800017408 : UInt64))])) _
        refine XS.iload X0.here hx rfl (hb hby at_51) rfl ?_
        show Steps p.tables e below (s₁.setTop (mkF m 53 #[.val (.int p0_), .val (.int p1_), .val (.int p2_), .val (.double (4607182418800017408 : UInt64)), .second, .val (.int (p1_ &&& (3 : Int32))), .val (.int (p2_ &&& (2147483647 : Int32)))] [(.int (p2_ &&& (2147483647 : Int32))), (.double (4607182418800017408 : UInt64))])) _
        refine st14 _ ?_
        show Steps p.tables e below (T14.setTop (mkF m 56 #[.val (.int p0_), .val (.int p1_), .val (.int p2_), .val (.double (4607182418800017408 : UInt64)), .second, .val (.int (p1_ &&& (3 : Int32))), .val (.int (p2_ &&& (2147483647 : Int32)))] [])) _
        refine XS.iconst X14.here hx rfl (hb hby at_56) ?_
        exact kt
      obtain ⟨fs, hr, hrun, hended, hW, hsame⟩ := X14.leave (v := some (.int (1 : Int32))) (fun h => by rw [Bd.returns] at h; cases h)
      refine ⟨_, _, pre16 _ (retN X14 hx (t := .boolean) Bd.returns (by simp) (hb hby at_57) hr), hrun, hended, _, _, rfl, ?_, ⟨_, rfl⟩, hW, hsame.mono (by decide) (by decide)⟩
      show QLaw Z p0_ p1_ p2_ h0 n0 _ T14.heap _
      rw [e14']
      exact ⟨rfl, N15⟩
  · have pre18 : ∀ t, Steps p.tables e below (s₁.setTop (mkF m 18 #[.val (.int p0_), .val (.int p1_), .val (.int p2_), .unset, .unset, .val (.int (p1_ &&& (3 : Int32))), .unset] [(.int (1 : Int32)), (.int (p1_ &&& (3 : Int32)))])) t → Steps p.tables e below (s₁.setTop (entryFrame m #[(.int p0_), (.int p1_), (.int p2_)] maxLocals)) t := by
      intro t kt
      refine pre1 t ?_
      show Steps p.tables e below (s₁.setTop (mkF m 7 #[.val (.int p0_), .val (.int p1_), .val (.int p2_), .unset, .unset, .val (.int (p1_ &&& (3 : Int32))), .unset] [(.int (p1_ &&& (3 : Int32)))])) _
      refine XS.ifYes X0.here hx rfl (pc0 := 7) (pc' := 15) rfl (hb hby at_7) rfl ((if0 _ _).trans (feq hc2).2) (by decide) (by decide) ?_
      show Steps p.tables e below (s₁.setTop (mkF m 15 #[.val (.int p0_), .val (.int p1_), .val (.int p2_), .unset, .unset, .val (.int (p1_ &&& (3 : Int32))), .unset] [])) _
      refine XS.iload X0.here hx rfl (hb hby at_15) rfl ?_
      show Steps p.tables e below (s₁.setTop (mkF m 17 #[.val (.int p0_), .val (.int p1_), .val (.int p2_), .unset, .unset, .val (.int (p1_ &&& (3 : Int32))), .unset] [(.int (p1_ &&& (3 : Int32)))])) _
      refine XS.iconst X0.here hx rfl (hb hby at_17) ?_
      exact kt
    by_cases hc19 : (p1_ &&& (3 : Int32)) = (1 : Int32)
    · have pre20 : ∀ t, Steps p.tables e below (s₁.setTop (mkF m 44 #[.val (.int p0_), .val (.int p1_), .val (.int p2_), .val (.double (0 : UInt64)), .second, .val (.int (p1_ &&& (3 : Int32))), .val (.int (p2_ &&& (2147483647 : Int32)))] [(.int (p2_ &&& (2147483647 : Int32)))])) t → Steps p.tables e below (s₁.setTop (entryFrame m #[(.int p0_), (.int p1_), (.int p2_)] maxLocals)) t := by
        intro t kt
        refine pre18 t ?_
        show Steps p.tables e below (s₁.setTop (mkF m 18 #[.val (.int p0_), .val (.int p1_), .val (.int p2_), .unset, .unset, .val (.int (p1_ &&& (3 : Int32))), .unset] [(.int (1 : Int32)), (.int (p1_ &&& (3 : Int32)))])) _
        refine XS.icmpNo X0.here hx rfl (hb hby at_18) rfl (teq hc19).2 ?_
        show Steps p.tables e below (s₁.setTop (mkF m 21 #[.val (.int p0_), .val (.int p1_), .val (.int p2_), .unset, .unset, .val (.int (p1_ &&& (3 : Int32))), .unset] [])) _
        refine XS.dconst0 X0.here hx rfl (hb hby at_21) rfl ?_
        show Steps p.tables e below (s₁.setTop (mkF m 22 #[.val (.int p0_), .val (.int p1_), .val (.int p2_), .unset, .unset, .val (.int (p1_ &&& (3 : Int32))), .unset] [(.double (0 : UInt64))])) _
        refine XS.dstoreN X0.here hx rfl (hb hby at_22) rfl (l' := #[.val (.int p0_), .val (.int p1_), .val (.int p2_), .val (.double (0 : UInt64)), .second, .val (.int (p1_ &&& (3 : Int32))), .unset]) rfl ?_
        show Steps p.tables e below (s₁.setTop (mkF m 23 #[.val (.int p0_), .val (.int p1_), .val (.int p2_), .val (.double (0 : UInt64)), .second, .val (.int (p1_ &&& (3 : Int32))), .unset] [])) _
        refine XS.goto X0.here hx rfl (pc0 := 23) (pc' := 36) rfl (hb hby at_23) (by decide) (by decide) ?_
        show Steps p.tables e below (s₁.setTop (mkF m 36 #[.val (.int p0_), .val (.int p1_), .val (.int p2_), .val (.double (0 : UInt64)), .second, .val (.int (p1_ &&& (3 : Int32))), .unset] [])) _
        refine XS.iloadN X0.here hx rfl (hb hby at_36) rfl ?_
        show Steps p.tables e below (s₁.setTop (mkF m 37 #[.val (.int p0_), .val (.int p1_), .val (.int p2_), .val (.double (0 : UInt64)), .second, .val (.int (p1_ &&& (3 : Int32))), .unset] [(.int p2_)])) _
        refine X0.ldcInt hx hown (mvT hZ (hw _ (List.mem_of_getElem? (i := 2) rfl))) (g := (mkF m 37 #[.val (.int p0_), .val (.int p1_), .val (.int p2_), .val (.double (0 : UInt64)), .second, .val (.int (p1_ &&& (3 : Int32))), .unset] [(.int p2_)])) rfl (hb hby at_37) _ ?_
        show Steps p.tables e below (s₁.setTop (mkF m 39 #[.val (.int p0_), .val (.int p1_), .val (.int p2_), .val (.double (0 : UInt64)), .second, .val (.int (p1_ &&& (3 : Int32))), .unset] [(.int (2147483647 : Int32)), (.int p2_)])) _
        refine XS.iand X0.here hx rfl (hb hby at_39) rfl ?_
        show Steps p.tables e below (s₁.setTop (mkF m 40 #[.val (.int p0_), .val (.int p1_), .val (.int p2_), .val (.double (0 : UInt64)), .second, .val (.int (p1_ &&& (3 : Int32))), .unset] [(.int (p2_ &&& (2147483647 : Int32)))])) _
        refine XS.istore X0.here hx rfl (hb hby at_40) rfl (l' := #[.val (.int p0_), .val (.int p1_), .val (.int p2_), .val (.double (0 : UInt64)), .second, .val (.int (p1_ &&& (3 : Int32))), .val (.int (p2_ &&& (2147483647 : Int32)))]) rfl ?_
        show Steps p.tables e below (s₁.setTop (mkF m 42 #[.val (.int p0_), .val (.int p1_), .val (.int p2_), .val (.double (0 : UInt64)), .second, .val (.int (p1_ &&& (3 : Int32))), .val (.int (p2_ &&& (2147483647 : Int32)))] [])) _
        refine XS.iload X0.here hx rfl (hb hby at_42) rfl ?_
        exact kt
      by_cases hc21 : (p2_ &&& (2147483647 : Int32)) = (0 : Int32)
      · have hn22 : ¬ ((cmpValue (FP.dcmp (0 : UInt64) (0 : UInt64)) .l) < (0 : Int32)) := by decide +kernel
        have hn23 : ¬ ((0 : Int32) < (cmpValue (FP.dcmp (0 : UInt64) (4607182418800017408 : UInt64)) .g)) := by decide +kernel
        obtain ⟨_, _, ⟨T24, L24, k24, n24⟩, -, X24, ⟨Lc24, hQ24, l24, y24, z24⟩, st24⟩ := Jvm.LawKit.callS X0 hx (y := (⟨"com/example/inquiry_into_concepts/inquiryintoconcepts/concepts/ConceptGraph", "checkWalk", "(DI)V"⟩ : MethodName)) hown (mvT hZ (hw _ (List.mem_of_getElem? (i := 3) rfl))) (mvT hZ (hw _ (List.mem_of_getElem? (i := 4) rfl))) (mvT hZ (hw _ (List.mem_of_getElem? (i := 5) rfl))) (mvT hZ (hw _ (List.mem_of_getElem? (i := 6) rfl))) (by decide) (backOf (W := 0) (rmcheckWalk3 l Z a0 hw []  h0 n0 O0 ) hZ (hw _ (List.mem_of_getElem? (i := 6) rfl)) (hw _ (List.mem_of_getElem? (i := 5) rfl)) (by decide) (by decide)) (g := (mkF m 53 #[.val (.int p0_), .val (.int p1_), .val (.int p2_), .val (.double (0 : UInt64)), .second, .val (.int (p1_ &&& (3 : Int32))), .val (.int (1 : Int32))] [(.int (1 : Int32)), (.double (0 : UInt64))])) rfl (by rw [hml]; rfl) (argsL := [(.double (0 : UInt64)), (.int (1 : Int32))]) (rest := []) (lenOf pd_0 rfl) rfl (by show 2 * 0 + _ ≤ _; exact Nat.le_of_eq rfl) (hb hby at_53) (fun _ _ => ⟨rfl, e0, (by decide : 0 + 0 ≤ _), (by decide : 0 + 0 ≤ _)⟩)
        dsimp only [Pt.U, Pt.locs, Pt.cells, Pt.slots] at X24 l24 y24 z24 st24 hQ24
        subst l24 y24 z24
        obtain ⟨h24, e24⟩ : ∃ z, T24.heap = z := ⟨_, rfl⟩
        rw [e24] at hQ24
        obtain ⟨rfl, N24q, hh24⟩ := hQ24
        have N25 := Fr.app N0 N24q
        have e24' : T24.heap = h0 := e24.trans hh24
        have pre26 : ∀ t, Steps p.tables e below (T24.setTop (mkF m 57 #[.val (.int p0_), .val (.int p1_), .val (.int p2_), .val (.double (0 : UInt64)), .second, .val (.int (p1_ &&& (3 : Int32))), .val (.int (1 : Int32))] [(.int (1 : Int32))])) t → Steps p.tables e below (s₁.setTop (entryFrame m #[(.int p0_), (.int p1_), (.int p2_)] maxLocals)) t := by
          intro t kt
          refine pre20 t ?_
          show Steps p.tables e below (s₁.setTop (mkF m 44 #[.val (.int p0_), .val (.int p1_), .val (.int p2_), .val (.double (0 : UInt64)), .second, .val (.int (p1_ &&& (3 : Int32))), .val (.int (p2_ &&& (2147483647 : Int32)))] [(.int (p2_ &&& (2147483647 : Int32)))])) _
          refine XS.ifNo X0.here hx rfl (hb hby at_44) rfl ((if0 _ _).trans (teq hc21).2) ?_
          show Steps p.tables e below (s₁.setTop (mkF m 47 #[.val (.int p0_), .val (.int p1_), .val (.int p2_), .val (.double (0 : UInt64)), .second, .val (.int (p1_ &&& (3 : Int32))), .val (.int (p2_ &&& (2147483647 : Int32)))] [])) _
          refine XS.iconst X0.here hx rfl (hb hby at_47) ?_
          show Steps p.tables e below (s₁.setTop (mkF m 48 #[.val (.int p0_), .val (.int p1_), .val (.int p2_), .val (.double (0 : UInt64)), .second, .val (.int (p1_ &&& (3 : Int32))), .val (.int (p2_ &&& (2147483647 : Int32)))] [(.int (1 : Int32))])) _
          refine XS.istore X0.here hx rfl (hb hby at_48) rfl (l' := #[.val (.int p0_), .val (.int p1_), .val (.int p2_), .val (.double (0 : UInt64)), .second, .val (.int (p1_ &&& (3 : Int32))), .val (.int (1 : Int32))]) rfl ?_
          show Steps p.tables e below (s₁.setTop (mkF m 50 #[.val (.int p0_), .val (.int p1_), .val (.int p2_), .val (.double (0 : UInt64)), .second, .val (.int (p1_ &&& (3 : Int32))), .val (.int (1 : Int32))] [])) _
          refine XS.dloadN X0.here hx rfl (hb hby at_50) rfl ?_
          show Steps p.tables e below (s₁.setTop (mkF m 51 #[.val (.int p0_), .val (.int p1_), .val (.int p2_), .val (.double (0 : UInt64)), .second, .val (.int (p1_ &&& (3 : Int32))), .val (.int (1 : Int32))] [(.double (0 : UInt64))])) _
          refine XS.iload X0.here hx rfl (hb hby at_51) rfl ?_
          show Steps p.tables e below (s₁.setTop (mkF m 53 #[.val (.int p0_), .val (.int p1_), .val (.int p2_), .val (.double (0 : UInt64)), .second, .val (.int (p1_ &&& (3 : Int32))), .val (.int (1 : Int32))] [(.int (1 : Int32)), (.double (0 : UInt64))])) _
          refine st24 _ ?_
          show Steps p.tables e below (T24.setTop (mkF m 56 #[.val (.int p0_), .val (.int p1_), .val (.int p2_), .val (.double (0 : UInt64)), .second, .val (.int (p1_ &&& (3 : Int32))), .val (.int (1 : Int32))] [])) _
          refine XS.iconst X24.here hx rfl (hb hby at_56) ?_
          exact kt
        obtain ⟨fs, hr, hrun, hended, hW, hsame⟩ := X24.leave (v := some (.int (1 : Int32))) (fun h => by rw [Bd.returns] at h; cases h)
        refine ⟨_, _, pre26 _ (retN X24 hx (t := .boolean) Bd.returns (by simp) (hb hby at_57) hr), hrun, hended, _, _, rfl, ?_, ⟨_, rfl⟩, hW, hsame.mono (by decide) (by decide)⟩
        show QLaw Z p0_ p1_ p2_ h0 n0 _ T24.heap _
        rw [e24']
        exact ⟨rfl, N25⟩
      · have hn28 : ¬ ((p2_ &&& (2147483647 : Int32)) < (1 : Int32)) := own_it p2_ hc21
        have hn29 : ¬ ((cmpValue (FP.dcmp (0 : UInt64) (0 : UInt64)) .l) < (0 : Int32)) := by decide +kernel
        have hn30 : ¬ ((0 : Int32) < (cmpValue (FP.dcmp (0 : UInt64) (4607182418800017408 : UInt64)) .g)) := by decide +kernel
        obtain ⟨_, _, ⟨T31, L31, k31, n31⟩, -, X31, ⟨Lc31, hQ31, l31, y31, z31⟩, st31⟩ := Jvm.LawKit.callS X0 hx (y := (⟨"com/example/inquiry_into_concepts/inquiryintoconcepts/concepts/ConceptGraph", "checkWalk", "(DI)V"⟩ : MethodName)) hown (mvT hZ (hw _ (List.mem_of_getElem? (i := 3) rfl))) (mvT hZ (hw _ (List.mem_of_getElem? (i := 4) rfl))) (mvT hZ (hw _ (List.mem_of_getElem? (i := 5) rfl))) (mvT hZ (hw _ (List.mem_of_getElem? (i := 6) rfl))) (by decide) (backOf (W := 0) (rmcheckWalk4 l Z a0 hw [] (p2_ &&& (2147483647 : Int32)) h0 n0 O0 hc21 hn28) hZ (hw _ (List.mem_of_getElem? (i := 6) rfl)) (hw _ (List.mem_of_getElem? (i := 5) rfl)) (by decide) (by decide)) (g := (mkF m 53 #[.val (.int p0_), .val (.int p1_), .val (.int p2_), .val (.double (0 : UInt64)), .second, .val (.int (p1_ &&& (3 : Int32))), .val (.int (p2_ &&& (2147483647 : Int32)))] [(.int (p2_ &&& (2147483647 : Int32))), (.double (0 : UInt64))])) rfl (by rw [hml]; rfl) (argsL := [(.double (0 : UInt64)), (.int (p2_ &&& (2147483647 : Int32)))]) (rest := []) (lenOf pd_0 rfl) rfl (by show 2 * 0 + _ ≤ _; exact Nat.le_of_eq rfl) (hb hby at_53) (fun _ _ => ⟨rfl, e0, (by decide : 0 + 0 ≤ _), (by decide : 0 + 0 ≤ _)⟩)
        dsimp only [Pt.U, Pt.locs, Pt.cells, Pt.slots] at X31 l31 y31 z31 st31 hQ31
        subst l31 y31 z31
        obtain ⟨h31, e31⟩ : ∃ z, T31.heap = z := ⟨_, rfl⟩
        rw [e31] at hQ31
        obtain ⟨rfl, N31q, hh31⟩ := hQ31
        have N32 := Fr.app N0 N31q
        have e31' : T31.heap = h0 := e31.trans hh31
        have pre33 : ∀ t, Steps p.tables e below (T31.setTop (mkF m 57 #[.val (.int p0_), .val (.int p1_), .val (.int p2_), .val (.double (0 : UInt64)), .second, .val (.int (p1_ &&& (3 : Int32))), .val (.int (p2_ &&& (2147483647 : Int32)))] [(.int (1 : Int32))])) t → Steps p.tables e below (s₁.setTop (entryFrame m #[(.int p0_), (.int p1_), (.int p2_)] maxLocals)) t := by
          intro t kt
          refine pre20 t ?_
          show Steps p.tables e below (s₁.setTop (mkF m 44 #[.val (.int p0_), .val (.int p1_), .val (.int p2_), .val (.double (0 : UInt64)), .second, .val (.int (p1_ &&& (3 : Int32))), .val (.int (p2_ &&& (2147483647 : Int32)))] [(.int (p2_ &&& (2147483647 : Int32)))])) _
          refine XS.ifYes X0.here hx rfl (pc0 := 44) (pc' := 50) rfl (hb hby at_44) rfl ((if0 _ _).trans (feq hc21).2) (by decide) (by decide) ?_
          show Steps p.tables e below (s₁.setTop (mkF m 50 #[.val (.int p0_), .val (.int p1_), .val (.int p2_), .val (.double (0 : UInt64)), .second, .val (.int (p1_ &&& (3 : Int32))), .val (.int (p2_ &&& (2147483647 : Int32)))] [])) _
          refine XS.dloadN X0.here hx rfl (hb hby at_50) rfl ?_
          show Steps p.tables e below (s₁.setTop (mkF m 51 #[.val (.int p0_), .val (.int p1_), .val (.int p2_), .val (.double (0 : UInt64)), .second, .val (.int (p1_ &&& (3 : Int32))), .val (.int (p2_ &&& (2147483647 : Int32)))] [(.double (0 : UInt64))])) _
          refine XS.iload X0.here hx rfl (hb hby at_51) rfl ?_
          show Steps p.tables e below (s₁.setTop (mkF m 53 #[.val (.int p0_), .val (.int p1_), .val (.int p2_), .val (.double (0 : UInt64)), .second, .val (.int (p1_ &&& (3 : Int32))), .val (.int (p2_ &&& (2147483647 : Int32)))] [(.int (p2_ &&& (2147483647 : Int32))), (.double (0 : UInt64))])) _
          refine st31 _ ?_
          show Steps p.tables e below (T31.setTop (mkF m 56 #[.val (.int p0_), .val (.int p1_), .val (.int p2_), .val (.double (0 : UInt64)), .second, .val (.int (p1_ &&& (3 : Int32))), .val (.int (p2_ &&& (2147483647 : Int32)))] [])) _
          refine XS.iconst X31.here hx rfl (hb hby at_56) ?_
          exact kt
        obtain ⟨fs, hr, hrun, hended, hW, hsame⟩ := X31.leave (v := some (.int (1 : Int32))) (fun h => by rw [Bd.returns] at h; cases h)
        refine ⟨_, _, pre33 _ (retN X31 hx (t := .boolean) Bd.returns (by simp) (hb hby at_57) hr), hrun, hended, _, _, rfl, ?_, ⟨_, rfl⟩, hW, hsame.mono (by decide) (by decide)⟩
        show QLaw Z p0_ p1_ p2_ h0 n0 _ T31.heap _
        rw [e31']
        exact ⟨rfl, N32⟩
    · have pre35 : ∀ t, Steps p.tables e below (s₁.setTop (mkF m 44 #[.val (.int p0_), .val (.int p1_), .val (.int p2_), .val (.double (FP.ddiv (FP.i2d (p0_ &&& (65535 : Int32))) (4679240012837945344 : UInt64))), .second, .val (.int (p1_ &&& (3 : Int32))), .val (.int (p2_ &&& (2147483647 : Int32)))] [(.int (p2_ &&& (2147483647 : Int32)))])) t → Steps p.tables e below (s₁.setTop (entryFrame m #[(.int p0_), (.int p1_), (.int p2_)] maxLocals)) t := by
        intro t kt
        refine pre18 t ?_
        show Steps p.tables e below (s₁.setTop (mkF m 18 #[.val (.int p0_), .val (.int p1_), .val (.int p2_), .unset, .unset, .val (.int (p1_ &&& (3 : Int32))), .unset] [(.int (1 : Int32)), (.int (p1_ &&& (3 : Int32)))])) _
        refine XS.icmpYes X0.here hx rfl (pc0 := 18) (pc' := 26) rfl (hb hby at_18) rfl (feq hc19).2 (by decide) (by decide) ?_
        show Steps p.tables e below (s₁.setTop (mkF m 26 #[.val (.int p0_), .val (.int p1_), .val (.int p2_), .unset, .unset, .val (.int (p1_ &&& (3 : Int32))), .unset] [])) _
        refine XS.iloadN X0.here hx rfl (hb hby at_26) rfl ?_
        show Steps p.tables e below (s₁.setTop (mkF m 27 #[.val (.int p0_), .val (.int p1_), .val (.int p2_), .unset, .unset, .val (.int (p1_ &&& (3 : Int32))), .unset] [(.int p0_)])) _
        refine X0.ldcInt hx hown (mvT hZ (hw _ (List.mem_of_getElem? (i := 0) rfl))) (g := (mkF m 27 #[.val (.int p0_), .val (.int p1_), .val (.int p2_), .unset, .unset, .val (.int (p1_ &&& (3 : Int32))), .unset] [(.int p0_)])) rfl (hb hby at_27) _ ?_
        show Steps p.tables e below (s₁.setTop (mkF m 29 #[.val (.int p0_), .val (.int p1_), .val (.int p2_), .unset, .unset, .val (.int (p1_ &&& (3 : Int32))), .unset] [(.int (65535 : Int32)), (.int p0_)])) _
        refine XS.iand X0.here hx rfl (hb hby at_29) rfl ?_
        show Steps p.tables e below (s₁.setTop (mkF m 30 #[.val (.int p0_), .val (.int p1_), .val (.int p2_), .unset, .unset, .val (.int (p1_ &&& (3 : Int32))), .unset] [(.int (p0_ &&& (65535 : Int32)))])) _
        refine XS.i2dS X0.here hx rfl (hb hby at_30) rfl rfl ?_
        show Steps p.tables e below (s₁.setTop (mkF m 31 #[.val (.int p0_), .val (.int p1_), .val (.int p2_), .unset, .unset, .val (.int (p1_ &&& (3 : Int32))), .unset] [(.double (FP.i2d (p0_ &&& (65535 : Int32))))])) _
        refine X0.ldc2DoubleC hx hown (mvT hZ (hw _ (List.mem_of_getElem? (i := 1) rfl))) (g := (mkF m 31 #[.val (.int p0_), .val (.int p1_), .val (.int p2_), .unset, .unset, .val (.int (p1_ &&& (3 : Int32))), .unset] [(.double (FP.i2d (p0_ &&& (65535 : Int32))))])) rfl (hb hby at_31) _ ?_
        show Steps p.tables e below (s₁.setTop (mkF m 34 #[.val (.int p0_), .val (.int p1_), .val (.int p2_), .unset, .unset, .val (.int (p1_ &&& (3 : Int32))), .unset] [(.double (4679240012837945344 : UInt64)), (.double (FP.i2d (p0_ &&& (65535 : Int32))))])) _
        refine XS.ddivS X0.here hx rfl (hb hby at_34) rfl (own_rnn p0_) rfl ?_
        show Steps p.tables e below (s₁.setTop (mkF m 35 #[.val (.int p0_), .val (.int p1_), .val (.int p2_), .unset, .unset, .val (.int (p1_ &&& (3 : Int32))), .unset] [(.double (FP.ddiv (FP.i2d (p0_ &&& (65535 : Int32))) (4679240012837945344 : UInt64)))])) _
        refine XS.dstoreN X0.here hx rfl (hb hby at_35) rfl (l' := #[.val (.int p0_), .val (.int p1_), .val (.int p2_), .val (.double (FP.ddiv (FP.i2d (p0_ &&& (65535 : Int32))) (4679240012837945344 : UInt64))), .second, .val (.int (p1_ &&& (3 : Int32))), .unset]) rfl ?_
        show Steps p.tables e below (s₁.setTop (mkF m 36 #[.val (.int p0_), .val (.int p1_), .val (.int p2_), .val (.double (FP.ddiv (FP.i2d (p0_ &&& (65535 : Int32))) (4679240012837945344 : UInt64))), .second, .val (.int (p1_ &&& (3 : Int32))), .unset] [])) _
        refine XS.iloadN X0.here hx rfl (hb hby at_36) rfl ?_
        show Steps p.tables e below (s₁.setTop (mkF m 37 #[.val (.int p0_), .val (.int p1_), .val (.int p2_), .val (.double (FP.ddiv (FP.i2d (p0_ &&& (65535 : Int32))) (4679240012837945344 : UInt64))), .second, .val (.int (p1_ &&& (3 : Int32))), .unset] [(.int p2_)])) _
        refine X0.ldcInt hx hown (mvT hZ (hw _ (List.mem_of_getElem? (i := 2) rfl))) (g := (mkF m 37 #[.val (.int p0_), .val (.int p1_), .val (.int p2_), .val (.double (FP.ddiv (FP.i2d (p0_ &&& (65535 : Int32))) (4679240012837945344 : UInt64))), .second, .val (.int (p1_ &&& (3 : Int32))), .unset] [(.int p2_)])) rfl (hb hby at_37) _ ?_
        show Steps p.tables e below (s₁.setTop (mkF m 39 #[.val (.int p0_), .val (.int p1_), .val (.int p2_), .val (.double (FP.ddiv (FP.i2d (p0_ &&& (65535 : Int32))) (4679240012837945344 : UInt64))), .second, .val (.int (p1_ &&& (3 : Int32))), .unset] [(.int (2147483647 : Int32)), (.int p2_)])) _
        refine XS.iand X0.here hx rfl (hb hby at_39) rfl ?_
        show Steps p.tables e below (s₁.setTop (mkF m 40 #[.val (.int p0_), .val (.int p1_), .val (.int p2_), .val (.double (FP.ddiv (FP.i2d (p0_ &&& (65535 : Int32))) (4679240012837945344 : UInt64))), .second, .val (.int (p1_ &&& (3 : Int32))), .unset] [(.int (p2_ &&& (2147483647 : Int32)))])) _
        refine XS.istore X0.here hx rfl (hb hby at_40) rfl (l' := #[.val (.int p0_), .val (.int p1_), .val (.int p2_), .val (.double (FP.ddiv (FP.i2d (p0_ &&& (65535 : Int32))) (4679240012837945344 : UInt64))), .second, .val (.int (p1_ &&& (3 : Int32))), .val (.int (p2_ &&& (2147483647 : Int32)))]) rfl ?_
        show Steps p.tables e below (s₁.setTop (mkF m 42 #[.val (.int p0_), .val (.int p1_), .val (.int p2_), .val (.double (FP.ddiv (FP.i2d (p0_ &&& (65535 : Int32))) (4679240012837945344 : UInt64))), .second, .val (.int (p1_ &&& (3 : Int32))), .val (.int (p2_ &&& (2147483647 : Int32)))] [])) _
        refine XS.iload X0.here hx rfl (hb hby at_42) rfl ?_
        exact kt
      by_cases hc36 : (p2_ &&& (2147483647 : Int32)) = (0 : Int32)
      · have hn37 : ¬ ((cmpValue (FP.dcmp (FP.ddiv (FP.i2d (p0_ &&& (65535 : Int32))) (4679240012837945344 : UInt64)) (0 : UInt64)) .l) < (0 : Int32)) := own_rge p0_
        have hn38 : ¬ ((0 : Int32) < (cmpValue (FP.dcmp (FP.ddiv (FP.i2d (p0_ &&& (65535 : Int32))) (4679240012837945344 : UInt64)) (4607182418800017408 : UInt64)) .g)) := own_rle p0_
        obtain ⟨_, _, ⟨T39, L39, k39, n39⟩, -, X39, ⟨Lc39, hQ39, l39, y39, z39⟩, st39⟩ := Jvm.LawKit.callS X0 hx (y := (⟨"com/example/inquiry_into_concepts/inquiryintoconcepts/concepts/ConceptGraph", "checkWalk", "(DI)V"⟩ : MethodName)) hown (mvT hZ (hw _ (List.mem_of_getElem? (i := 3) rfl))) (mvT hZ (hw _ (List.mem_of_getElem? (i := 4) rfl))) (mvT hZ (hw _ (List.mem_of_getElem? (i := 5) rfl))) (mvT hZ (hw _ (List.mem_of_getElem? (i := 6) rfl))) (by decide) (backOf (W := 0) (rmcheckWalk5 l Z a0 hw [] (FP.ddiv (FP.i2d (p0_ &&& (65535 : Int32))) (4679240012837945344 : UInt64)) h0 n0 O0 hn37 hn38) hZ (hw _ (List.mem_of_getElem? (i := 6) rfl)) (hw _ (List.mem_of_getElem? (i := 5) rfl)) (by decide) (by decide)) (g := (mkF m 53 #[.val (.int p0_), .val (.int p1_), .val (.int p2_), .val (.double (FP.ddiv (FP.i2d (p0_ &&& (65535 : Int32))) (4679240012837945344 : UInt64))), .second, .val (.int (p1_ &&& (3 : Int32))), .val (.int (1 : Int32))] [(.int (1 : Int32)), (.double (FP.ddiv (FP.i2d (p0_ &&& (65535 : Int32))) (4679240012837945344 : UInt64)))])) rfl (by rw [hml]; rfl) (argsL := [(.double (FP.ddiv (FP.i2d (p0_ &&& (65535 : Int32))) (4679240012837945344 : UInt64))), (.int (1 : Int32))]) (rest := []) (lenOf pd_0 rfl) rfl (by show 2 * 0 + _ ≤ _; exact Nat.le_of_eq rfl) (hb hby at_53) (fun _ _ => ⟨rfl, e0, (by decide : 0 + 0 ≤ _), (by decide : 0 + 0 ≤ _)⟩)
        dsimp only [Pt.U, Pt.locs, Pt.cells, Pt.slots] at X39 l39 y39 z39 st39 hQ39
        subst l39 y39 z39
        obtain ⟨h39, e39⟩ : ∃ z, T39.heap = z := ⟨_, rfl⟩
        rw [e39] at hQ39
        obtain ⟨rfl, N39q, hh39⟩ := hQ39
        have N40 := Fr.app N0 N39q
        have e39' : T39.heap = h0 := e39.trans hh39
        have pre41 : ∀ t, Steps p.tables e below (T39.setTop (mkF m 57 #[.val (.int p0_), .val (.int p1_), .val (.int p2_), .val (.double (FP.ddiv (FP.i2d (p0_ &&& (65535 : Int32))) (4679240012837945344 : UInt64))), .second, .val (.int (p1_ &&& (3 : Int32))), .val (.int (1 : Int32))] [(.int (1 : Int32))])) t → Steps p.tables e below (s₁.setTop (entryFrame m #[(.int p0_), (.int p1_), (.int p2_)] maxLocals)) t := by
          intro t kt
          refine pre35 t ?_
          show Steps p.tables e below (s₁.setTop (mkF m 44 #[.val (.int p0_), .val (.int p1_), .val (.int p2_), .val (.double (FP.ddiv (FP.i2d (p0_ &&& (65535 : Int32))) (4679240012837945344 : UInt64))), .second, .val (.int (p1_ &&& (3 : Int32))), .val (.int (p2_ &&& (2147483647 : Int32)))] [(.int (p2_ &&& (2147483647 : Int32)))])) _
          refine XS.ifNo X0.here hx rfl (hb hby at_44) rfl ((if0 _ _).trans (teq hc36).2) ?_
          show Steps p.tables e below (s₁.setTop (mkF m 47 #[.val (.int p0_), .val (.int p1_), .val (.int p2_), .val (.double (FP.ddiv (FP.i2d (p0_ &&& (65535 : Int32))) (4679240012837945344 : UInt64))), .second, .val (.int (p1_ &&& (3 : Int32))), .val (.int (p2_ &&& (2147483647 : Int32)))] [])) _
          refine XS.iconst X0.here hx rfl (hb hby at_47) ?_
          show Steps p.tables e below (s₁.setTop (mkF m 48 #[.val (.int p0_), .val (.int p1_), .val (.int p2_), .val (.double (FP.ddiv (FP.i2d (p0_ &&& (65535 : Int32))) (4679240012837945344 : UInt64))), .second, .val (.int (p1_ &&& (3 : Int32))), .val (.int (p2_ &&& (2147483647 : Int32)))] [(.int (1 : Int32))])) _
          refine XS.istore X0.here hx rfl (hb hby at_48) rfl (l' := #[.val (.int p0_), .val (.int p1_), .val (.int p2_), .val (.double (FP.ddiv (FP.i2d (p0_ &&& (65535 : Int32))) (4679240012837945344 : UInt64))), .second, .val (.int (p1_ &&& (3 : Int32))), .val (.int (1 : Int32))]) rfl ?_
          show Steps p.tables e below (s₁.setTop (mkF m 50 #[.val (.int p0_), .val (.int p1_), .val (.int p2_), .val (.double (FP.ddiv (FP.i2d (p0_ &&& (65535 : Int32))) (4679240012837945344 : UInt64))), .second, .val (.int (p1_ &&& (3 : Int32))), .val (.int (1 : Int32))] [])) _
          refine XS.dloadN X0.here hx rfl (hb hby at_50) rfl ?_
          show Steps p.tables e below (s₁.setTop (mkF m 51 #[.val (.int p0_), .val (.int p1_), .val (.int p2_), .val (.double (FP.ddiv (FP.i2d (p0_ &&& (65535 : Int32))) (4679240012837945344 : UInt64))), .second, .val (.int (p1_ &&& (3 : Int32))), .val (.int (1 : Int32))] [(.double (FP.ddiv (FP.i2d (p0_ &&& (65535 : Int32))) (4679240012837945344 : UInt64)))])) _
          refine XS.iload X0.here hx rfl (hb hby at_51) rfl ?_
          show Steps p.tables e below (s₁.setTop (mkF m 53 #[.val (.int p0_), .val (.int p1_), .val (.int p2_), .val (.double (FP.ddiv (FP.i2d (p0_ &&& (65535 : Int32))) (4679240012837945344 : UInt64))), .second, .val (.int (p1_ &&& (3 : Int32))), .val (.int (1 : Int32))] [(.int (1 : Int32)), (.double (FP.ddiv (FP.i2d (p0_ &&& (65535 : Int32))) (4679240012837945344 : UInt64)))])) _
          refine st39 _ ?_
          show Steps p.tables e below (T39.setTop (mkF m 56 #[.val (.int p0_), .val (.int p1_), .val (.int p2_), .val (.double (FP.ddiv (FP.i2d (p0_ &&& (65535 : Int32))) (4679240012837945344 : UInt64))), .second, .val (.int (p1_ &&& (3 : Int32))), .val (.int (1 : Int32))] [])) _
          refine XS.iconst X39.here hx rfl (hb hby at_56) ?_
          exact kt
        obtain ⟨fs, hr, hrun, hended, hW, hsame⟩ := X39.leave (v := some (.int (1 : Int32))) (fun h => by rw [Bd.returns] at h; cases h)
        refine ⟨_, _, pre41 _ (retN X39 hx (t := .boolean) Bd.returns (by simp) (hb hby at_57) hr), hrun, hended, _, _, rfl, ?_, ⟨_, rfl⟩, hW, hsame.mono (by decide) (by decide)⟩
        show QLaw Z p0_ p1_ p2_ h0 n0 _ T39.heap _
        rw [e39']
        exact ⟨rfl, N40⟩
      · have hn43 : ¬ ((p2_ &&& (2147483647 : Int32)) < (1 : Int32)) := own_it p2_ hc36
        have hn44 : ¬ ((cmpValue (FP.dcmp (FP.ddiv (FP.i2d (p0_ &&& (65535 : Int32))) (4679240012837945344 : UInt64)) (0 : UInt64)) .l) < (0 : Int32)) := own_rge p0_
        have hn45 : ¬ ((0 : Int32) < (cmpValue (FP.dcmp (FP.ddiv (FP.i2d (p0_ &&& (65535 : Int32))) (4679240012837945344 : UInt64)) (4607182418800017408 : UInt64)) .g)) := own_rle p0_
        obtain ⟨_, _, ⟨T46, L46, k46, n46⟩, -, X46, ⟨Lc46, hQ46, l46, y46, z46⟩, st46⟩ := Jvm.LawKit.callS X0 hx (y := (⟨"com/example/inquiry_into_concepts/inquiryintoconcepts/concepts/ConceptGraph", "checkWalk", "(DI)V"⟩ : MethodName)) hown (mvT hZ (hw _ (List.mem_of_getElem? (i := 3) rfl))) (mvT hZ (hw _ (List.mem_of_getElem? (i := 4) rfl))) (mvT hZ (hw _ (List.mem_of_getElem? (i := 5) rfl))) (mvT hZ (hw _ (List.mem_of_getElem? (i := 6) rfl))) (by decide) (backOf (W := 0) (rmcheckWalk6 l Z a0 hw [] (FP.ddiv (FP.i2d (p0_ &&& (65535 : Int32))) (4679240012837945344 : UInt64)) (p2_ &&& (2147483647 : Int32)) h0 n0 O0 hc36 hn43 hn44 hn45) hZ (hw _ (List.mem_of_getElem? (i := 6) rfl)) (hw _ (List.mem_of_getElem? (i := 5) rfl)) (by decide) (by decide)) (g := (mkF m 53 #[.val (.int p0_), .val (.int p1_), .val (.int p2_), .val (.double (FP.ddiv (FP.i2d (p0_ &&& (65535 : Int32))) (4679240012837945344 : UInt64))), .second, .val (.int (p1_ &&& (3 : Int32))), .val (.int (p2_ &&& (2147483647 : Int32)))] [(.int (p2_ &&& (2147483647 : Int32))), (.double (FP.ddiv (FP.i2d (p0_ &&& (65535 : Int32))) (4679240012837945344 : UInt64)))])) rfl (by rw [hml]; rfl) (argsL := [(.double (FP.ddiv (FP.i2d (p0_ &&& (65535 : Int32))) (4679240012837945344 : UInt64))), (.int (p2_ &&& (2147483647 : Int32)))]) (rest := []) (lenOf pd_0 rfl) rfl (by show 2 * 0 + _ ≤ _; exact Nat.le_of_eq rfl) (hb hby at_53) (fun _ _ => ⟨rfl, e0, (by decide : 0 + 0 ≤ _), (by decide : 0 + 0 ≤ _)⟩)
        dsimp only [Pt.U, Pt.locs, Pt.cells, Pt.slots] at X46 l46 y46 z46 st46 hQ46
        subst l46 y46 z46
        obtain ⟨h46, e46⟩ : ∃ z, T46.heap = z := ⟨_, rfl⟩
        rw [e46] at hQ46
        obtain ⟨rfl, N46q, hh46⟩ := hQ46
        have N47 := Fr.app N0 N46q
        have e46' : T46.heap = h0 := e46.trans hh46
        have pre48 : ∀ t, Steps p.tables e below (T46.setTop (mkF m 57 #[.val (.int p0_), .val (.int p1_), .val (.int p2_), .val (.double (FP.ddiv (FP.i2d (p0_ &&& (65535 : Int32))) (4679240012837945344 : UInt64))), .second, .val (.int (p1_ &&& (3 : Int32))), .val (.int (p2_ &&& (2147483647 : Int32)))] [(.int (1 : Int32))])) t → Steps p.tables e below (s₁.setTop (entryFrame m #[(.int p0_), (.int p1_), (.int p2_)] maxLocals)) t := by
          intro t kt
          refine pre35 t ?_
          show Steps p.tables e below (s₁.setTop (mkF m 44 #[.val (.int p0_), .val (.int p1_), .val (.int p2_), .val (.double (FP.ddiv (FP.i2d (p0_ &&& (65535 : Int32))) (4679240012837945344 : UInt64))), .second, .val (.int (p1_ &&& (3 : Int32))), .val (.int (p2_ &&& (2147483647 : Int32)))] [(.int (p2_ &&& (2147483647 : Int32)))])) _
          refine XS.ifYes X0.here hx rfl (pc0 := 44) (pc' := 50) rfl (hb hby at_44) rfl ((if0 _ _).trans (feq hc36).2) (by decide) (by decide) ?_
          show Steps p.tables e below (s₁.setTop (mkF m 50 #[.val (.int p0_), .val (.int p1_), .val (.int p2_), .val (.double (FP.ddiv (FP.i2d (p0_ &&& (65535 : Int32))) (4679240012837945344 : UInt64))), .second, .val (.int (p1_ &&& (3 : Int32))), .val (.int (p2_ &&& (2147483647 : Int32)))] [])) _
          refine XS.dloadN X0.here hx rfl (hb hby at_50) rfl ?_
          show Steps p.tables e below (s₁.setTop (mkF m 51 #[.val (.int p0_), .val (.int p1_), .val (.int p2_), .val (.double (FP.ddiv (FP.i2d (p0_ &&& (65535 : Int32))) (4679240012837945344 : UInt64))), .second, .val (.int (p1_ &&& (3 : Int32))), .val (.int (p2_ &&& (2147483647 : Int32)))] [(.double (FP.ddiv (FP.i2d (p0_ &&& (65535 : Int32))) (4679240012837945344 : UInt64)))])) _
          refine XS.iload X0.here hx rfl (hb hby at_51) rfl ?_
          show Steps p.tables e below (s₁.setTop (mkF m 53 #[.val (.int p0_), .val (.int p1_), .val (.int p2_), .val (.double (FP.ddiv (FP.i2d (p0_ &&& (65535 : Int32))) (4679240012837945344 : UInt64))), .second, .val (.int (p1_ &&& (3 : Int32))), .val (.int (p2_ &&& (2147483647 : Int32)))] [(.int (p2_ &&& (2147483647 : Int32))), (.double (FP.ddiv (FP.i2d (p0_ &&& (65535 : Int32))) (4679240012837945344 : UInt64)))])) _
          refine st46 _ ?_
          show Steps p.tables e below (T46.setTop (mkF m 56 #[.val (.int p0_), .val (.int p1_), .val (.int p2_), .val (.double (FP.ddiv (FP.i2d (p0_ &&& (65535 : Int32))) (4679240012837945344 : UInt64))), .second, .val (.int (p1_ &&& (3 : Int32))), .val (.int (p2_ &&& (2147483647 : Int32)))] [])) _
          refine XS.iconst X46.here hx rfl (hb hby at_56) ?_
          exact kt
        obtain ⟨fs, hr, hrun, hended, hW, hsame⟩ := X46.leave (v := some (.int (1 : Int32))) (fun h => by rw [Bd.returns] at h; cases h)
        refine ⟨_, _, pre48 _ (retN X46 hx (t := .boolean) Bd.returns (by simp) (hb hby at_57) hr), hrun, hended, _, _, rfl, ?_, ⟨_, rfl⟩, hW, hsame.mono (by decide) (by decide)⟩
        show QLaw Z p0_ p1_ p2_ h0 n0 _ T46.heap _
        rw [e46']
        exact ⟨rfl, N47⟩
set_option maxRecDepth 65536 in
set_option maxHeartbeats 40000000 in
theorem comes_1 {Post : Tables → Env → Array Value → State → Outcome → State → Prop} (hpost : ∀ tb e args s v u, (limb_1_1.after args s (.returned v) u = true ∧ limb_1_2.after args s (.returned v) u = true ∧ True) → FrameEnd s (.returned v) u (Jvm.fieldLocs frame_1_writes args s ++ Jvm.arrayLocs frame_1_arrays args s ++ Jvm.staticLocs frame_1_statics s) 0 0 → Post tb e args s (.returned v) u) :
    ArmFor flags0 classFile x code maxLocals ret World_1 tables_1 room_1 Calls_1 rest_1 Pre_1 Post := by
  intro l hfl _ _ p e ha hc hk s m args below hf hA hF happ hP
  obtain ⟨hcalls, hrest, hpre⟩ := hP
  obtain ⟨-, -, -, hnamed, -, -, -, hat⟩ := (Spec.applies_iff hf).mp happ
  obtain ⟨hg, hn⟩ := and_e (Cond.before_iff.mp (show (Jvm.Cond.and given_1 narrow_1).before args s = true from hpre))
  obtain ⟨g1, g2⟩ := and_e hg
  obtain ⟨g3, g4⟩ := and_e g2
  obtain ⟨g5, g6⟩ := and_e g4
  obtain ⟨w0, w1, w2, rfl⟩ : ∃ w0 w1 w2 : Value, args = #[w0, w1, w2] := by
    have hs : args.size = 3 := by simpa [Cond.value, given_1] using g1
    obtain ⟨L⟩ := args
    match L, hs with
    | [w0, w1, w2], _ => exact ⟨w0, w1, w2, rfl⟩
  have hw := fun d (hd : d ∈ tables_1) => atoms_spec (ws := Jvm.Cond.code x code maxLocals ret :: tables_1) hat d (List.mem_cons_of_mem _ hd)
  have hfit : Fit s := fun {y c} hc i hi => by
    obtain ⟨ha, rfl⟩ := Array.getElem?_eq_some_iff.mp hc
    have q := List.all_eq_true.mp ((Array.all_eq_true_iff_forall_mem.mp hF) _ (Array.getElem_mem ha)) i (List.mem_range.mpr hi)
    simpa [Array.getElem?_eq_getElem hi] using q
  obtain ⟨i0, ei0⟩ := is_v g3
  obtain rfl : w0 = (.int i0) := Option.some.inj ei0
  obtain ⟨i1, ei1⟩ := is_v g5
  obtain rfl : w1 = (.int i1) := Option.some.inj ei1
  obtain ⟨i2, ei2⟩ := is_v g6
  obtain rfl : w2 = (.int i2) := Option.some.inj ei2
  obtain ⟨n, o, h1, h2, h3, _, L, rfl, ⟨rfl, N⟩, hq⟩ := rmLaw l s _ hw tables_1 i0 i1 i2 s.heap s.heap.size (Old.start s)  p e ha hc hk s m _ below hf ((Spec.applies_iff_loose hf).mp happ).1 ⟨rfl, State.Warmed39.refl s, rfl⟩ trivial
  refine ⟨n, _, h1, h2, h3, hpost _ _ _ _ _ _ ⟨Cond.after_iff.mpr rfl, Cond.after_iff.mpr (eq_i res_at (Term.int_eval (1)) rfl), trivial⟩ ⟨hq.1, hq.2.1, (hq.2.2.sift fun y hy => Or.inr (N y hy)).mono (by decide) (by decide)⟩⟩
theorem main_1_1 : Claimed_1_1 := comes_1 fun _ _ _ _ _ _ h hF => ⟨h.1, hF⟩
theorem main_1_2 : Claimed_1_2 := comes_1 fun _ _ _ _ _ _ h hF => ⟨h.2.1, hF⟩
end Jvm.Pilot.@@N@@
namespace Jvm.Pilot.@@N@@
open Jvm Jvm.ClassFile Sem Op Lib Jvm.Free Jvm.Stand Jvm.Pilot.@@N@@.Jvm.D
/-! MADE BY PROGRAM (witnessworld.py) out of the Statement's table words and the real class files: 9 classes; the members and pool entries that the words name. The judged class is class 1, her method 1. -/
namespace start1
open Jvm.ClassFile
def u (s : String) : CpInfo := .utf8 (stringToUtf16 s)
/-- a pool by its gaps: so many unusable entries, then the entry; so many at the end -/
def gap : Nat → List CpInfo → List CpInfo
  | 0, r => r
  | n + 1, r => .unusable :: gap n r
def poolList (es : List (Nat × CpInfo)) (last : Nat) : List CpInfo := es.foldr (fun e r => gap e.1 (e.2 :: r)) (gap last [])
def pool (es : List (Nat × CpInfo)) (last : Nat) : Array CpInfo := ⟨poolList es last⟩
def fileOf (pool : Array CpInfo) (this : Nat) (attrs : Array Attribute := #[]) (ms : Array MethodInfo := #[]) (fl : Nat := 33) (sup : Nat := 0) (ifs : Array Nat := #[]) (fds : Array FieldInfo := #[]) : ClassFile where
  minorVersion := 0
  majorVersion := 65
  constantPool := pool
  accessFlags := fl
  thisClass := this
  superClass := sup
  interfaces := ifs
  fields := fds
  methods := ms
  attributes := attrs
def plain (name : String) (sup : Option ClassId) : Class where
  name := name
  kind := .ordinary
  loader := none
  accessFlags := 33
  super := sup
  interfaces := #[]
  cf := none
  fields := #[]
  methods := #[]
  instanceTypes := #[]
  staticTypes := #[]
  resolved := #[]
  callSites := []
  init := .initialized
  statics := none
  mirror := none

def pool0 : Array CpInfo := pool [(5, u "<init>"), (0, u "()V"), (1, .class_ 10), (1, u "java/lang/Object")] 113

def k0m0 : Method := { name := "<init>", desc := "()V", sig := { parameters := [], returnType := none }, accessFlags := 1, code := none }
/-- java/lang/Object -/
def k0 : Class := { plain "java/lang/Object" none with
  accessFlags := 33
  interfaces := #[]
  cf := some (fileOf pool0 8 #[] #[{ accessFlags := 1, nameIndex := 5, descriptorIndex := 6, attributes := #[] }] 33 0 #[] #[])
  fields := #[]
  methods := #[k0m0]
  instanceTypes := #[]
  staticTypes := #[]
  resolved := Array.replicate 124 none
  statics := none }

def pool1 : Array CpInfo := pool [(2, .class_ 4), (1, u "java/lang/Object"), (0, u "<init>"), (0, u "()V"), (0, .integer 65535), (0, .double 4679240012837945344), (1, .integer 2147483647), (0, .methodref 12 13), (0, .class_ 14), (0, .nameAndType 15 16), (0, u "com/example/inquiry_into_concepts/inquiryintoconcepts/concepts/ConceptGraph"), (0, u "checkWalk"), (0, u "(DI)V"), (0, .class_ 18), (0, u "com/example/inquiry_into_concepts/inquiryintoconcepts/concepts/ConceptGraphCheckWalkPinLaw"), (2, u "law"), (0, u "(III)Z")] 3

def k1m0 : Method := { name := "<init>", desc := "()V", sig := { parameters := [], returnType := none }, accessFlags := 1, code := none }
def k1c1 : Code := { maxStack := 4, maxLocals := 7, code := code, exceptionTable := #[], attributes := #[] }
def k1m1 : Method := { name := "law", desc := "(III)Z", sig := { parameters := [.int, .int, .int], returnType := some .boolean }, accessFlags := 9, code := some k1c1 }
/-- com/example/inquiry_into_concepts/inquiryintoconcepts/concepts/ConceptGraphCheckWalkPinLaw -/
def k1 : Class := { plain "com/example/inquiry_into_concepts/inquiryintoconcepts/concepts/ConceptGraphCheckWalkPinLaw" (some 0) with
  accessFlags := 49
  interfaces := #[]
  cf := some (fileOf pool1 17 #[] #[{ accessFlags := 1, nameIndex := 5, descriptorIndex := 6, attributes := #[] }, { accessFlags := 9, nameIndex := 21, descriptorIndex := 22, attributes := #[] }] 49 2 #[] #[])
  fields := #[]
  methods := #[k1m0, k1m1]
  instanceTypes := #[]
  staticTypes := #[]
  resolved := Array.replicate 26 none
  statics := none }

def pool2 : Array CpInfo := pool [(2, .class_ 4), (1, u "java/lang/Object"), (10, .class_ 17), (1, u "com/example/inquiry_into_concepts/inquiryintoconcepts/concepts/ConceptGraph"), (0, u "linksOut"), (0, u "Ljava/util/Map;"), (5, u "nodes"), (5, u "codes"), (0, u "Ljava/util/List;"), (80, u "subdivisions"), (0, u "[[I"), (2, u "links"), (0, u "I"), (71, u "checkWalk"), (0, u "(DI)V")] 89

def k2c0 : Code := { maxStack := 4, maxLocals := 3, code := prog_3_method_7_code, exceptionTable := #[], attributes := #[] }
def k2m0 : Method := { name := "checkWalk", desc := "(DI)V", sig := { parameters := [.double, .int], returnType := none }, accessFlags := 9, code := some k2c0 }
/-- com/example/inquiry_into_concepts/inquiryintoconcepts/concepts/ConceptGraph -/
def k2 : Class := { plain "com/example/inquiry_into_concepts/inquiryintoconcepts/concepts/ConceptGraph" (some 0) with
  accessFlags := 49
  interfaces := #[]
  cf := some (fileOf pool2 15 #[] #[{ accessFlags := 9, nameIndex := 190, descriptorIndex := 191, attributes := #[] }] 49 2 #[] #[{ accessFlags := 18, nameIndex := 25, descriptorIndex := 19, attributes := #[] }, { accessFlags := 18, nameIndex := 31, descriptorIndex := 32, attributes := #[] }, { accessFlags := 18, nameIndex := 113, descriptorIndex := 114, attributes := #[] }, { accessFlags := 18, nameIndex := 18, descriptorIndex := 19, attributes := #[] }, { accessFlags := 18, nameIndex := 117, descriptorIndex := 118, attributes := #[] }])
  fields := #[{ name := "nodes", type := (.object "java/util/Map"), accessFlags := 18, slot := 0, constantValue := 0 }, { name := "codes", type := (.object "java/util/List"), accessFlags := 18, slot := 1, constantValue := 0 }, { name := "subdivisions", type := (.array (.array .int)), accessFlags := 18, slot := 2, constantValue := 0 }, { name := "linksOut", type := (.object "java/util/Map"), accessFlags := 18, slot := 3, constantValue := 0 }, { name := "links", type := .int, accessFlags := 18, slot := 4, constantValue := 0 }]
  methods := #[k2m0]
  instanceTypes := #[(.object "java/util/Map"), (.object "java/util/List"), (.array (.array .int)), (.object "java/util/Map"), .int]
  staticTypes := #[]
  resolved := Array.replicate 281 none
  statics := none }

def pool3 : Array CpInfo := pool [(1, u "java/lang/Cloneable"), (0, .class_ 1), (0, u "java/lang/Object"), (0, .class_ 3)] 3

/-- java/lang/Cloneable -/
def k3 : Class := { plain "java/lang/Cloneable" (some 0) with
  accessFlags := 1537
  interfaces := #[]
  cf := some (fileOf pool3 2 #[] #[] 1537 4 #[] #[])
  fields := #[]
  methods := #[]
  instanceTypes := #[]
  staticTypes := #[]
  resolved := Array.replicate 8 none
  statics := none }

def pool4 : Array CpInfo := pool [(1, u "java/io/Serializable"), (0, .class_ 1), (0, u "java/lang/Object"), (0, .class_ 3)] 3

/-- java/io/Serializable -/
def k4 : Class := { plain "java/io/Serializable" (some 0) with
  accessFlags := 1537
  interfaces := #[]
  cf := some (fileOf pool4 2 #[] #[] 1537 4 #[] #[])
  fields := #[]
  methods := #[]
  instanceTypes := #[]
  staticTypes := #[]
  resolved := Array.replicate 8 none
  statics := none }

/-- the primitive byte -/
def k5 : Class := { plain "byte" none with kind := .primitive 'B', accessFlags := 0x411 }
/-- [B -/
def k6 : Class := { plain "[B" (some 0) with kind := .array 5 .byte, interfaces := #[3, 4], accessFlags := 1041 }

/-- the primitive int -/
def k7 : Class := { plain "int" none with kind := .primitive 'I', accessFlags := 0x411 }
/-- [I -/
def k8 : Class := { plain "[I" (some 0) with kind := .array 7 .int, interfaces := #[3, 4], accessFlags := 1041 }

def heap : Heap := #[]
def classes : Array Class := #[k0, k1, k2, k3, k4, k5, k6, k7, k8]
def interned : List (Array UInt16 × Addr) := []
def slotsUsed : Nat := 0
def theMethod : MethodId := ⟨1, 1⟩
def args0 : Array Value := #[.int 5, .int 3, .int 1]
def aboutOver (below : List Frame) : State where
  vm := { classes := classes, interned := interned.toArray }
  heap := heap
  slotsUsed := slotsUsed
  threads := #[{ frames := .invoking theMethod args0 :: below }]
def below0 : List Frame := [.native { method := ⟨0, 0⟩, args := #[] }]
def about1 : State := aboutOver below0
def p0 : Program := .bare "" "" ""
def e0 : Env := launch0.env 0 0 0
theorem w_frames : about1.frames = Frame.invoking theMethod args0 :: below0 := rfl
set_option maxRecDepth 65536 in
theorem w_args : argsFit about1.vm theMethod args0 = true := by decide +kernel
set_option maxRecDepth 65536 in
theorem w_heap : heapFits about1 = true := by decide +kernel
set_option maxRecDepth 65536 in
theorem w_runnable : about1.curStatus? = some .runnable := by decide +kernel
set_option maxRecDepth 65536 in
theorem w_alone : about1.alone = true := by decide +kernel
set_option maxRecDepth 65536 in
theorem w_named : about1.methodNamed? x = some theMethod := by decide +kernel
set_option maxRecDepth 65536 in
theorem w_hears : about1.hears theMethod below0 = true := by decide +kernel
set_option maxRecDepth 65536 in
theorem w_ripe : about1.ripe theMethod args0 below0 = true := by decide +kernel
theorem w_running : about1.status = .running := rfl
set_option maxRecDepth 65536 in
theorem w_room : about1.hasRoom e0.platform room_1 = true :=
  launch0.hasRoom_least _ room_1 (by decide +kernel) (by decide +kernel) (by decide +kernel) (by decide +kernel) (by decide +kernel) (by decide +kernel)
theorem allAtoms_all (ts : List Jvm.Cond) (a : Array Jvm.Value) (st : Jvm.State) : (allAtoms ts).before a st = ts.all (fun c => c.before a st) := by
  induction ts with
  | nil => rfl
  | cons c t ih =>
    show (Jvm.Cond.and c (allAtoms t)).before a st = _
    rw [Jvm.Cond.before_and, ih, List.all_cons]
def words1 : List Jvm.Cond := Jvm.Cond.code x code maxLocals ret :: tables_1
/-- a 'code' word, met by the world's own term for the bytes: nothing is compared byte by byte -/
theorem code_word {y : MethodName} {bytes : ByteArray} {mx : Nat} {rt : Option FieldType} {a : Array Value} {s : State} {m : MethodId} {meth : Method} {c : Code} (h1 : s.methodNamed? y = some m) (h2 : s.vm.method? m = some meth) (h3 : meth.code = some c) (h4 : c.code = bytes)
    (h5 : (c.maxLocals == mx && c.exceptionTable.isEmpty && decide (c.maxStack ≤ mostOperands) && decide (meth.sig.returnType = rt) && !meth.locks && decide (parseMethodDescriptor y.desc = some meth.sig)) = true) : (Jvm.Cond.code y bytes mx rt).before a s = true := by
  simp only [Bool.and_eq_true, beq_iff_eq, Bool.not_eq_true', decide_eq_true_eq] at h5
  obtain ⟨⟨⟨⟨⟨g1, g2⟩, g3⟩, g4⟩, g5⟩, g6⟩ := h5
  simp [Cond.before, Cond.holds, Cond.value, h1, h2, h3, h4, g1, g2, g3, g4, g5, g6]
def isCode : Jvm.Cond → Bool
  | .code _ _ _ _ => true
  | _ => false
theorem all_split {L : List Jvm.Cond} {P : Jvm.Cond → Bool} (h1 : L.all (fun c => isCode c || P c) = true) (h2 : ∀ c ∈ L.filter isCode, P c = true) : L.all P = true := by
  refine List.all_eq_true.mpr fun c hc => ?_
  have h := List.all_eq_true.mp h1 c hc
  rcases Bool.eq_false_or_eq_true (isCode c) with hi | hi
  · exact h2 c (List.mem_filter.mpr ⟨hc, hi⟩)
  · simpa [hi] using h
set_option maxRecDepth 65536 in
theorem w_c0 : (Jvm.Cond.code x code maxLocals ret).before args0 about1 = true := code_word (m := ⟨1, 1⟩) (meth := k1m1) (c := k1c1) (by decide +kernel) rfl rfl rfl (by decide +kernel)
set_option maxRecDepth 65536 in
theorem w_c1 : (Jvm.Cond.code ({ cls := "com/example/inquiry_into_concepts/inquiryintoconcepts/concepts/ConceptGraph", name := "checkWalk", desc := "(DI)V" } : Jvm.MethodName) prog_3_method_7_code (3 : Nat) (Option.none : Option Jvm.ClassFile.FieldType)).before args0 about1 = true := code_word (m := ⟨2, 0⟩) (meth := k2m0) (c := k2c0) (by decide +kernel) rfl rfl rfl (by decide +kernel)
def codes1 : List Jvm.Cond := [Jvm.Cond.code x code maxLocals ret, Jvm.Cond.code ({ cls := "com/example/inquiry_into_concepts/inquiryintoconcepts/concepts/ConceptGraph", name := "checkWalk", desc := "(DI)V" } : Jvm.MethodName) prog_3_method_7_code (3 : Nat) (Option.none : Option Jvm.ClassFile.FieldType)]
set_option maxRecDepth 65536 in
theorem codes_eq : words1.filter isCode = codes1 := rfl
theorem w_codes : ∀ c ∈ words1.filter isCode, c.before args0 about1 = true := by
  rw [codes_eq]
  intro c hc
  simp only [codes1, List.mem_cons, List.not_mem_nil, or_false] at hc
  rcases hc with rfl | rfl
  · exact w_c0
  · exact w_c1
set_option maxRecDepth 65536 in
theorem w_t1 : words1.all (fun c => isCode c || c.before args0 about1) = true := by decide +kernel
theorem w_tables : (allAtoms (Jvm.Cond.code x code maxLocals ret :: tables_1)).before args0 about1 = true := by
  rw [allAtoms_all]
  show words1.all (fun c => c.before args0 about1) = true
  refine all_split ?_ w_codes
  rw [w_t1]
set_option maxRecDepth 65536 in
theorem w_case : (Jvm.Cond.and given_1 narrow_1).before args0 about1 = true := by decide +kernel
theorem w_applies : (headSpec (Jvm.Cond.code x code maxLocals ret :: tables_1) room_1).applies x e0.platform about1 = true :=
  (Spec.applies_iff w_frames).mpr ⟨w_running, w_runnable, w_alone, w_named, w_hears, w_ripe, w_room, w_tables⟩
theorem atStart : AtStart classFile x code maxLocals ret World_1 tables_1 room_1 Calls_1 rest_1 Pre_1 launch0 p0 e0 about1 theMethod args0 below0 :=
  ⟨lists_1, trivial, launch0.admits_env _ _ _, launch0.least_env, fairChoices_fair.cas, fairChoices_fair.clock, w_frames, w_args, w_heap, w_applies, trivial, trivial, w_case⟩
end start1
theorem witness_1 : WitnessClaimed_1 := ⟨start1.p0, start1.e0, start1.about1, start1.theMethod, start1.args0, start1.below0, start1.atStart⟩
end Jvm.Pilot.@@N@@
