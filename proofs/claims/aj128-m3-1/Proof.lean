import JvmDerived
import JvmDerived.Pilot.@@N@@Statement
import JvmDerived.Pilot.@@N@@Code
set_option linter.unusedVariables false
set_option linter.unusedSimpArgs false
namespace Jvm.Pilot.@@N@@
open Jvm Jvm.ClassFile Sem Op Lib Jvm.Free Jvm.Stand Jvm.LawKit Jvm.RoadKit Bundle Jvm.Pilot.@@N@@.Jvm.D
theorem own_w {a0 : Array Value} {Z : State} {d : Jvm.Cond} (hw : ∀ d ∈ tables_1, d.before a0 Z = true) (i : Nat) (h : tables_1[i]? = some d) : d.before a0 Z = true := hw _ (List.mem_of_getElem? h)
abbrev lvI (x : Int32) : Slot := .val (.int x)
abbrev lvJ (x : Int64) : Slot := .val (.long x)
abbrev lvD (x : UInt64) : Slot := .val (.double x)
abbrev lvR (x : Addr) : Slot := .val (.ref x)
abbrev own_S (p : Program) (e : Env) (b : List Frame) (m : MethodId) (T : State) (pc : Nat) (l : Array Slot) (st : List Value) (t : State) : Prop := Steps p.tables e b (T.setTop (mkF m pc l st)) t
theorem own_eqi {args : Array Value} {s : State} {t : Term} {k : Int32} (h : (Jvm.Cond.eq t (.int k)).value args s none s [] = some true) : t.eval args s none [] s = some (.int k) := by
  simp only [Cond.value, Term.eval] at h
  cases ht : t.eval args s none [] s with
  | none => simp [ht] at h
  | some x => cases x <;> simp [ht] at h ⊢ <;> exact h
theorem own_ovr {Z : State} {h : Heap} {a : Addr} {cl : Cell} {C ad : String} {a0 : Array Value} (w : (Jvm.Cond.arrayOver (.object C)).before a0 Z = true) (E : Exa Z h a ad) (q : h[a]? = some cl) (had : "[" ++ (FieldType.object C).toString = ad) : Ovr Z cl.cls C := by
  obtain ⟨comp, c, k, h1, -, h2, h3, h4⟩ := Cond.arrayOver_spec w
  subst had
  obtain ⟨cell, k', g1, g2, -⟩ := E
  cases q.symm.trans g1
  cases h4.symm.trans g2
  exact ⟨k, comp, h2, h3, h1⟩
theorem own_len {args : Array Value} {s : State} {t : Term} {a : Addr} {cl : Cell} {ty : FieldType} {n : Int32} (h : (Jvm.Cond.eq (.length t) (.int n)).value args s none s [] = some true) (ht : t.eval args s none [] s = some (.ref a)) (A : Arr s s.heap a cl ty) : cl.slots.size < 2 ^ 31 ∧ cl.slots.size.toInt32 = n := by
  have e := own_eqi h
  have q := A.fin (Vm.Alike.refl _)
  simp only [Term.eval, ht, q, Option.bind_eq_bind, Option.bind_some] at e
  split at e
  · rename_i q'
    exact ⟨q', Value.int.inj (Option.some.inj e)⟩
  · cases e
section OwnF
open Jvm.FP.Core
theorem own_pow {c d A B : Nat} {q r : Int} (ea : c * 2 ^ q.toNat = A * 2 ^ (-q).toNat) (eb : d * 2 ^ r.toNat = B * 2 ^ (-r).toNat) : c * B * 2 ^ ((q - r) - 0).toNat = A * d * 2 ^ (0 - (q - r)).toNat := by
  have hx : (q - r - 0).toNat + (-q).toNat + r.toNat = (0 - (q - r)).toNat + q.toNat + (-r).toNat := by omega
  generalize (q - r - 0).toNat = u at *
  generalize (0 - (q - r)).toNat = v at *
  generalize q.toNat = q1 at *
  generalize (-q).toNat = q2 at *
  generalize r.toNat = r1 at *
  generalize (-r).toNat = r2 at *
  have hp : 0 < 2 ^ q1 * 2 ^ r2 := Nat.mul_pos (Nat.two_pow_pos _) (Nat.two_pow_pos _)
  apply Nat.eq_of_mul_eq_mul_right hp
  have e1 : c * B * 2 ^ u * (2 ^ q1 * 2 ^ r2) = (c * 2 ^ q1) * (B * 2 ^ r2) * 2 ^ u := by
    simp only [Nat.mul_assoc, Nat.mul_comm, Nat.mul_left_comm]
  have e2 : A * d * 2 ^ v * (2 ^ q1 * 2 ^ r2) = A * d * 2 ^ (v + q1 + r2) := by
    rw [Nat.pow_add, Nat.pow_add]; simp only [Nat.mul_assoc]
  have e3 : A * 2 ^ q2 * (d * 2 ^ r1) * 2 ^ u = A * d * 2 ^ (u + q2 + r1) := by
    rw [Nat.pow_add, Nat.pow_add]; simp only [Nat.mul_assoc, Nat.mul_comm, Nat.mul_left_comm]
  rw [e1, e2, ea, ← eb, e3, hx]
theorem own_div {a b : Int64} (ha : Small53 a) (hb : Small53 b) (h0 : 0 < b.toInt) : val64 (FP.ddiv (FP.l2d a) (FP.l2d b)) = roundRatio b64 (decide (a.toInt < 0)) a.toInt.natAbs b.toInt.natAbs 0 := by
  obtain ⟨c, q, hc⟩ := l2d_shape a
  obtain ⟨d, r, hd⟩ := l2d_shape b
  have wa := l2d_whole ha
  have wb := l2d_whole hb
  rw [hc] at wa
  rw [hd] at wb
  have d0 : ¬ d = 0 := fun z => by have := (whole_zero wb).mp z; omega
  have e := val64_ddiv (FP.l2d a) (FP.l2d b)
  rw [show val64 (FP.l2d a) = _ from hc, show val64 (FP.l2d b) = _ from hd] at e
  refine e.trans ?_
  show (if d = 0 then (if c = 0 then Datum.nan else .inf _) else roundRatio b64 _ c d (q - r)) = _
  rw [if_neg d0]
  have hs : (decide (a.toInt < 0) != decide (b.toInt < 0)) = decide (a.toInt < 0) := by
    rw [show decide (b.toInt < 0) = false from decide_eq_false (by omega)]; simp
  rw [hs]
  exact roundRatio_congr (Nat.pos_of_ne_zero d0) (by omega) (own_pow (whole_natAbs wa) (whole_natAbs wb))
theorem own_i2d (x : Int32) : val64 (FP.i2d x) = roundRatio b64 (decide (x.toInt < 0)) x.toInt.natAbs 1 0 := val64_i2d x
theorem own_i2d_whole (x : Int32) : Whole x.toInt (val64 (FP.i2d x)) := by
  rw [show FP.i2d x = FP.l2d x.toInt64 from i2d_l2d x]
  have h := l2d_whole (a := x.toInt64) ⟨by rw [Int32.toInt_toInt64]; have := x.le_toInt; omega, by rw [Int32.toInt_toInt64]; have := x.toInt_lt; omega⟩
  rw [Int32.toInt_toInt64] at h; exact h
theorem own_v05 : val64 4602678819172646912 = .fin false (2 ^ 52) (-53) := by decide +kernel
theorem own_half (x : Int32) : val64 (FP.dadd (FP.i2d x) 4602678819172646912) = roundRatio b64 (decide (2 * x.toInt + 1 < 0)) (2 * x.toInt + 1).natAbs 1 (-1) := by
  have w := own_i2d_whole x
  have e := val64_dadd (FP.i2d x) 4602678819172646912
  refine e.trans ?_
  rw [own_v05]
  generalize val64 (FP.i2d x) = y at w
  cases y with
  | nan => exact w.elim
  | inf => exact w.elim
  | fin s c q =>
    have hm1 : min q (-53) ≤ q := Int.min_le_left _ _
    have hm2 : min q (-53) ≤ -53 := Int.min_le_right _ _
    show round b64 (.fin (sumSign s false (sumUnits s c q false (2 ^ 52) (-53) (min q (-53)))) (sumUnits s c q false (2 ^ 52) (-53) (min q (-53))).natAbs (min q (-53))) = _
    have u := whole_units w hm1
    generalize min q (-53) = m at *
    have hv : sumUnits s c q false (2 ^ 52) (-53) m = (2 * x.toInt + 1) * ((2 ^ (-1 - m).toNat : Nat) : Int) := by
      have z : m.toNat = 0 := by omega
      rw [z] at u
      have hD : (-m).toNat = (-1 - m).toNat + 1 := by omega
      rw [hD] at u
      have e2 : inUnits (2 ^ 52) (-53) m = 2 ^ (-1 - m).toNat := by
        show 2 ^ 52 * 2 ^ (-53 - m).toNat = _
        rw [← Nat.pow_add]; congr 1; omega
      show signed s (inUnits c q m) + signed false (inUnits (2 ^ 52) (-53) m) = _
      rw [e2]
      show _ + ((2 ^ (-1 - m).toNat : Nat) : Int) = _
      rw [Nat.pow_succ] at u
      generalize 2 ^ (-1 - m).toNat = D at *
      have u' : signed s (inUnits c q m) = x.toInt * ((D : Int) * 2) := by
        have := u; rw [Int.natCast_mul] at this; simpa using this
      rw [Int.add_mul, Int.one_mul, Int.mul_assoc, u']
      have : x.toInt * ((D : Int) * 2) = 2 * (x.toInt * (D : Int)) := by
        rw [← Int.mul_assoc, Int.mul_comm]
      omega
    have hpos : (0 : Int) < ((2 ^ (-1 - m).toNat : Nat) : Int) := by have := Nat.two_pow_pos (-1 - m).toNat; omega
    rw [hv]
    have hne : ¬ ((2 * x.toInt + 1) * ((2 ^ (-1 - m).toNat : Nat) : Int) = 0) := by
      intro h
      rcases Int.mul_eq_zero.mp h with h | h <;> omega
    have hsg : sumSign s false ((2 * x.toInt + 1) * ((2 ^ (-1 - m).toNat : Nat) : Int)) = decide (2 * x.toInt + 1 < 0) := by
      unfold sumSign
      rw [if_neg hne]
      apply decide_eq_decide.mpr
      constructor
      · intro h
        apply Int.lt_of_not_ge
        intro h2
        have := Int.mul_nonneg h2 (Int.le_of_lt hpos)
        omega
      · intro h
        exact Int.mul_neg_of_neg_of_pos h hpos
    rw [hsg]
    show roundRatio b64 _ _ 1 m = _
    refine roundRatio_congr (by decide) (by decide) ?_
    rw [Int.natAbs_mul, Int.natAbs_natCast, show (m - -1).toNat = 0 by omega]
    simp
theorem own_nn {x : UInt64} {s : Bool} {A B : Nat} {e : Int} (h : val64 x = roundRatio b64 s A B e) : Jvm.Free.Fl.NoNaN64 x := Jvm.Free.Fl.noNaN64_no.mpr ((notNaN_iff x).mpr (by rw [h]; exact roundRatio_ne_nan _ _ _ _ _))
theorem own_eq0 {x y : UInt64} {s : Bool} {A B : Nat} {e : Int} (hx : val64 x = roundRatio b64 s A B e) (hy : val64 y = roundRatio b64 s A B e) (o : ClassFile.CmpOp) : cmpValue (FP.dcmp x y) o = 0 :=
  dcmpV_eq (val64_inj (by rw [hx]; exact roundRatio_ne_nan _ _ _ _ _) (hx.trans hy.symm)) (own_nn hx) o
end OwnF
section OwnH
open Jvm.FP.Core
theorem own_zmag {V : Datum} {M : Int} {K : Nat} (h : zval b64 V = M * (K : Int)) : zmag b64 V = M.natAbs * K := by
  have := congrArg Int.natAbs h
  rw [show zval b64 V = signed (sgn V) (zmag b64 V) from rfl, natAbs_signed, Int.natAbs_mul, Int.natAbs_natCast] at this
  exact this
theorem own_rlo {V : Datum} {a M : Int} {b : Nat} (hb : 0 < b) (fV : FP.Core.fits b64 V) (nV : V ≠ .nan) (hz : zval b64 V = M * ((2 ^ (-b64.qmin).toNat : Nat) : Int)) (h : M * (b : Int) ≤ a) : zval b64 V ≤ zval b64 (roundRatio b64 (decide (a < 0)) a.natAbs b 0) := by
  have hzm := own_zmag hz
  have hs := sgn_roundRatio b64 (decide (a < 0)) a.natAbs b 0
  have hR : zval b64 (roundRatio b64 (decide (a < 0)) a.natAbs b 0) = signed (decide (a < 0)) (zmag b64 (roundRatio b64 (decide (a < 0)) a.natAbs b 0)) := by
    show signed (sgn _) _ = _
    rw [hs]
  have hq : b64.qmin = -1074 := by decide
  have hin : inUnits a.natAbs 0 b64.qmin = a.natAbs * 2 ^ (-b64.qmin).toNat := by
    show _ * 2 ^ (0 - b64.qmin).toNat = _
    rw [Int.zero_sub]
  have h1 : (b64.qmin - b64.qmin).toNat = 0 := by rw [Int.sub_self]; rfl
  have hK := Nat.two_pow_pos (-b64.qmin).toNat
  have le := fun g => zmag_roundRatio_le good_b64 (s := decide (a < 0)) (A := a.natAbs) (B := b) (e := 0) (e0 := b64.qmin) (V := V) hb fV nV (Int.le_refl _) (by rw [hq]; decide) g
  have ge := fun g => zmag_roundRatio_ge good_b64 (s := decide (a < 0)) (A := a.natAbs) (B := b) (e := 0) (e0 := b64.qmin) (V := V) hb fV (Int.le_refl _) (by rw [hq]; decide) g
  rw [hin, hzm, h1, Nat.pow_zero, Nat.mul_one] at le ge
  rw [hR, hz]
  generalize 2 ^ (-b64.qmin).toNat = K at *
  generalize zmag b64 (roundRatio b64 (decide (a < 0)) a.natAbs b 0) = r at *
  by_cases ha : a < 0
  · have hM : M < 0 := by
      apply Int.lt_of_not_ge
      intro z
      have := Int.mul_nonneg z (show (0 : Int) ≤ (b : Int) by omega)
      omega
    rw [show decide (a < 0) = true from decide_eq_true ha]
    show M * (K : Int) ≤ -(r : Int)
    have g := le (by
      have e1 : M.natAbs * K * b = (M.natAbs * b) * K := by rw [Nat.mul_assoc, Nat.mul_comm K b, ← Nat.mul_assoc]
      rw [e1]
      apply Nat.mul_le_mul_right
      have e2 : ((M.natAbs * b : Nat) : Int) = -(M * (b : Int)) := by
        rw [Int.natCast_mul, show ((M.natAbs : Nat) : Int) = -M by omega, Int.neg_mul]
      omega)
    have e3 : ((M.natAbs * K : Nat) : Int) = -(M * (K : Int)) := by
      rw [Int.natCast_mul, show ((M.natAbs : Nat) : Int) = -M by omega, Int.neg_mul]
    omega
  · rw [show decide (a < 0) = false from decide_eq_false ha]
    show M * (K : Int) ≤ (r : Int)
    by_cases hM : M ≤ 0
    · have := Int.mul_nonneg (show (0 : Int) ≤ -M by omega) (show (0 : Int) ≤ (K : Int) by omega)
      rw [Int.neg_mul] at this
      omega
    · have g := ge (by
        have e1 : M.natAbs * K * b = (M.natAbs * b) * K := by rw [Nat.mul_assoc, Nat.mul_comm K b, ← Nat.mul_assoc]
        rw [e1]
        apply Nat.mul_le_mul_right
        have e2 : ((M.natAbs * b : Nat) : Int) = M * (b : Int) := by
          rw [Int.natCast_mul, show ((M.natAbs : Nat) : Int) = M by omega]
        omega)
      have e3 : ((M.natAbs * K : Nat) : Int) = M * (K : Int) := by
        rw [Int.natCast_mul, show ((M.natAbs : Nat) : Int) = M by omega]
      omega
theorem own_rhi {V : Datum} {a M : Int} {b : Nat} (hb : 0 < b) (fV : FP.Core.fits b64 V) (nV : V ≠ .nan) (hz : zval b64 V = M * ((2 ^ (-b64.qmin).toNat : Nat) : Int)) (h : a ≤ M * (b : Int)) : zval b64 (roundRatio b64 (decide (a < 0)) a.natAbs b 0) ≤ zval b64 V := by
  have hzm := own_zmag hz
  have hs := sgn_roundRatio b64 (decide (a < 0)) a.natAbs b 0
  have hR : zval b64 (roundRatio b64 (decide (a < 0)) a.natAbs b 0) = signed (decide (a < 0)) (zmag b64 (roundRatio b64 (decide (a < 0)) a.natAbs b 0)) := by
    show signed (sgn _) _ = _
    rw [hs]
  have hq : b64.qmin = -1074 := by decide
  have hin : inUnits a.natAbs 0 b64.qmin = a.natAbs * 2 ^ (-b64.qmin).toNat := by
    show _ * 2 ^ (0 - b64.qmin).toNat = _
    rw [Int.zero_sub]
  have h1 : (b64.qmin - b64.qmin).toNat = 0 := by rw [Int.sub_self]; rfl
  have hK := Nat.two_pow_pos (-b64.qmin).toNat
  have le := fun g => zmag_roundRatio_le good_b64 (s := decide (a < 0)) (A := a.natAbs) (B := b) (e := 0) (e0 := b64.qmin) (V := V) hb fV nV (Int.le_refl _) (by rw [hq]; decide) g
  have ge := fun g => zmag_roundRatio_ge good_b64 (s := decide (a < 0)) (A := a.natAbs) (B := b) (e := 0) (e0 := b64.qmin) (V := V) hb fV (Int.le_refl _) (by rw [hq]; decide) g
  rw [hin, hzm, h1, Nat.pow_zero, Nat.mul_one] at le ge
  rw [hR, hz]
  generalize 2 ^ (-b64.qmin).toNat = K at *
  generalize zmag b64 (roundRatio b64 (decide (a < 0)) a.natAbs b 0) = r at *
  by_cases ha : a < 0
  · rw [show decide (a < 0) = true from decide_eq_true ha]
    show -(r : Int) ≤ M * (K : Int)
    by_cases hM : 0 ≤ M
    · have := Int.mul_nonneg hM (show (0 : Int) ≤ (K : Int) by omega)
      omega
    · have g := ge (by
        have e1 : M.natAbs * K * b = (M.natAbs * b) * K := by rw [Nat.mul_assoc, Nat.mul_comm K b, ← Nat.mul_assoc]
        rw [e1]
        apply Nat.mul_le_mul_right
        have e2 : ((M.natAbs * b : Nat) : Int) = -(M * (b : Int)) := by
          rw [Int.natCast_mul, show ((M.natAbs : Nat) : Int) = -M by omega, Int.neg_mul]
        omega)
      have e3 : ((M.natAbs * K : Nat) : Int) = -(M * (K : Int)) := by
        rw [Int.natCast_mul, show ((M.natAbs : Nat) : Int) = -M by omega, Int.neg_mul]
      omega
  · rw [show decide (a < 0) = false from decide_eq_false ha]
    show (r : Int) ≤ M * (K : Int)
    have hM : 0 ≤ M := by
      apply Int.le_of_not_gt
      intro z
      have := Int.mul_neg_of_neg_of_pos z (show (0 : Int) < (b : Int) by omega)
      omega
    have g := le (by
      have e1 : M.natAbs * K * b = (M.natAbs * b) * K := by rw [Nat.mul_assoc, Nat.mul_comm K b, ← Nat.mul_assoc]
      rw [e1]
      apply Nat.mul_le_mul_right
      have e2 : ((M.natAbs * b : Nat) : Int) = M * (b : Int) := by
        rw [Int.natCast_mul, show ((M.natAbs : Nat) : Int) = M by omega]
      omega)
    have e3 : ((M.natAbs * K : Nat) : Int) = M * (K : Int) := by
      rw [Int.natCast_mul, show ((M.natAbs : Nat) : Int) = M by omega]
    omega
theorem own_notgt {x y : UInt64} (h : FP.Core.dcmp x y = some .lt ∨ FP.Core.dcmp x y = some .eq) : ¬ ((0 : Int32) < cmpValue (FP.dcmp x y) .g) := by
  rcases h with h | h <;> rw [show FP.dcmp x y = _ from h] <;> decide
theorem own_cmplo {a b L : Int64} (ha : Small53 a) (hb : Small53 b) (h0 : 0 < b.toInt) (hL : Small53 L) (h : L.toInt * b.toInt ≤ a.toInt) : ¬ ((0 : Int32) < cmpValue (FP.dcmp (FP.l2d L) (FP.ddiv (FP.l2d a) (FP.l2d b))) .g) := by
  apply own_notgt
  have w := l2d_whole hL
  refine dcmp_le.mpr ⟨w.ne_nan, ?_, ?_⟩
  · rw [show val64 (FP.Core.ddiv (FP.l2d a) (FP.l2d b)) = _ from own_div ha hb h0]; exact roundRatio_ne_nan _ _ _ _ _
  · rw [show val64 (FP.Core.ddiv (FP.l2d a) (FP.l2d b)) = _ from own_div ha hb h0]
    exact own_rlo (by omega) (val64_fits _) w.ne_nan (whole_zval good_b64 (val64_fits _) w) (by rw [show ((b.toInt.natAbs : Nat) : Int) = b.toInt by omega]; exact h)
theorem own_cmphi {a b L : Int64} (ha : Small53 a) (hb : Small53 b) (h0 : 0 < b.toInt) (hL : Small53 L) (h : a.toInt ≤ L.toInt * b.toInt) : ¬ ((0 : Int32) < cmpValue (FP.dcmp (FP.ddiv (FP.l2d a) (FP.l2d b)) (FP.l2d L)) .g) := by
  apply own_notgt
  have w := l2d_whole hL
  refine dcmp_le.mpr ⟨?_, w.ne_nan, ?_⟩
  · rw [show val64 (FP.Core.ddiv (FP.l2d a) (FP.l2d b)) = _ from own_div ha hb h0]; exact roundRatio_ne_nan _ _ _ _ _
  · rw [show val64 (FP.Core.ddiv (FP.l2d a) (FP.l2d b)) = _ from own_div ha hb h0]
    exact own_rhi (by omega) (val64_fits _) w.ne_nan (whole_zval good_b64 (val64_fits _) w) (by rw [show ((b.toInt.natAbs : Nat) : Int) = b.toInt by omega]; exact h)
end OwnH
section OwnM
open Jvm.FP.Core
theorem own_l2d0 : FP.l2d 0 = (0 : UInt64) := by decide +kernel
theorem own_l2d1 : FP.l2d 1 = (4607182418800017408 : UInt64) := by decide +kernel
theorem own_i2dl (n : Int32) : FP.i2d n = FP.l2d n.toInt64 := i2d_l2d n
theorem own_s53 (n : Int32) : Small53 n.toInt64 := ⟨by rw [c_i2l]; have := rng32 n; omega, by rw [c_i2l]; have := rng32 n; omega⟩
theorem own_notgtL {x y : UInt64} (h : FP.Core.dcmp x y = some .lt ∨ FP.Core.dcmp x y = some .eq) : ¬ ((0 : Int32) < cmpValue (FP.dcmp x y) .l) := by
  rcases h with h | h <;> rw [show FP.dcmp x y = _ from h] <;> decide
theorem own_notltL {x y : UInt64} (h : FP.Core.dcmp x y = some .gt ∨ FP.Core.dcmp x y = some .eq) : ¬ (cmpValue (FP.dcmp x y) .l < (0 : Int32)) := by
  rcases h with h | h <;> rw [show FP.dcmp x y = _ from h] <;> decide
theorem own_isgt {x y : UInt64} {o : CmpOp} (h : FP.Core.dcmp x y = some .gt) : (0 : Int32) < cmpValue (FP.dcmp x y) o := by
  rw [show FP.dcmp x y = _ from h]; cases o <;> decide
theorem own_ge0 {a b : Int64} (ha : Small53 a) (hb : Small53 b) (h0 : 0 < b.toInt) (h : 0 ≤ a.toInt) : ¬ (cmpValue (FP.dcmp (FP.ddiv (FP.l2d a) (FP.l2d b)) (0 : UInt64)) .l < (0 : Int32)) := by
  apply own_notltL
  rw [← own_l2d0]
  have w := l2d_whole (a := 0) ⟨by decide, by decide⟩
  refine dcmp_ge.mpr ⟨?_, w.ne_nan, ?_⟩
  · rw [show val64 (FP.Core.ddiv (FP.l2d a) (FP.l2d b)) = _ from own_div ha hb h0]; exact roundRatio_ne_nan _ _ _ _ _
  · rw [show val64 (FP.Core.ddiv (FP.l2d a) (FP.l2d b)) = _ from own_div ha hb h0]
    exact own_rlo (by omega) (val64_fits _) w.ne_nan (whole_zval good_b64 (val64_fits _) w) (by show (0 : Int) * _ ≤ _; omega)
theorem own_le0 {a b : Int64} (ha : Small53 a) (hb : Small53 b) (h0 : 0 < b.toInt) (h : a.toInt ≤ 0) : ¬ ((0 : Int32) < cmpValue (FP.dcmp (FP.ddiv (FP.l2d a) (FP.l2d b)) (0 : UInt64)) .l) := by
  apply own_notgtL
  rw [← own_l2d0]
  have w := l2d_whole (a := 0) ⟨by decide, by decide⟩
  refine dcmp_le.mpr ⟨?_, w.ne_nan, ?_⟩
  · rw [show val64 (FP.Core.ddiv (FP.l2d a) (FP.l2d b)) = _ from own_div ha hb h0]; exact roundRatio_ne_nan _ _ _ _ _
  · rw [show val64 (FP.Core.ddiv (FP.l2d a) (FP.l2d b)) = _ from own_div ha hb h0]
    exact own_rhi (by omega) (val64_fits _) w.ne_nan (whole_zval good_b64 (val64_fits _) w) (by show _ ≤ (0 : Int) * _; omega)
theorem own_le1 {a b : Int64} (ha : Small53 a) (hb : Small53 b) (h0 : 0 < b.toInt) (h : a.toInt ≤ b.toInt) : ¬ ((0 : Int32) < cmpValue (FP.dcmp (FP.ddiv (FP.l2d a) (FP.l2d b)) (4607182418800017408 : UInt64)) .g) := by
  rw [← own_l2d1]
  exact own_cmphi ha hb h0 ⟨by decide, by decide⟩ (by show _ ≤ (1 : Int) * _; omega)
theorem own_zge {a b : Int64} {V : UInt64} {z : Nat} (ha : Small53 a) (hb : Small53 b) (h0 : 0 < b.toInt) (hp : 0 ≤ a.toInt) (hz : zmag b64 (val64 V) = z) (h : z * b.toInt.natAbs ≤ a.toInt.natAbs * 2 ^ 1074) : ((z : Nat) : Int) ≤ zval b64 (val64 (FP.ddiv (FP.l2d a) (FP.l2d b))) := by
  rw [own_div ha hb h0]
  have hs := sgn_roundRatio b64 (decide (a.toInt < 0)) a.toInt.natAbs b.toInt.natAbs 0
  show _ ≤ signed (sgn _) _
  rw [hs, show decide (a.toInt < 0) = false from decide_eq_false (by omega)]
  have hq : b64.qmin = -1074 := by decide
  have g := zmag_roundRatio_ge good_b64 (s := false) (A := a.toInt.natAbs) (B := b.toInt.natAbs) (e := 0) (e0 := b64.qmin) (V := val64 V) (by omega) (val64_fits _) (Int.le_refl _) (by rw [hq]; decide) (by
    rw [hz, Int.sub_self]
    show z * 1 * _ ≤ a.toInt.natAbs * 2 ^ (0 - b64.qmin).toNat
    rw [Nat.mul_one, hq]
    exact h)
  rw [hz] at g
  show ((z : Nat) : Int) ≤ ((zmag b64 _ : Nat) : Int)
  omega
theorem own_vs : zmag b64 (val64 4463067230724161536) = 2 ^ 1042 := by decide +kernel
theorem own_vb : zmag b64 (val64 4607182418802114560) = 2 ^ 1074 + 2 ^ 1043 := by decide +kernel
theorem own_v1 : zval b64 (val64 4607182418800017408) = ((2 ^ 1074 : Nat) : Int) := by decide +kernel
theorem own_v0 : zval b64 (val64 0) = 0 := by decide +kernel
theorem own_dnn {a b : Int64} (ha : Small53 a) (hb : Small53 b) (h0 : 0 < b.toInt) : val64 (FP.ddiv (FP.l2d a) (FP.l2d b)) ≠ .nan := by
  rw [own_div ha hb h0]; exact roundRatio_ne_nan _ _ _ _ _
theorem own_gt0 {a b : Int64} (ha : Small53 a) (hb : Small53 b) (h0 : 0 < b.toInt) (h1 : b.toInt ≤ 2147483648) (h : 0 < a.toInt) : (0 : Int32) < cmpValue (FP.dcmp (FP.ddiv (FP.l2d a) (FP.l2d b)) (0 : UInt64)) .l := by
  apply own_isgt
  have g := own_zge ha hb h0 (by omega) own_vs (by
    have e1 : (2 : Nat) ^ 1074 = 2 ^ 1042 * 2 ^ 32 := by rw [← Nat.pow_add]
    rw [e1, Nat.mul_comm a.toInt.natAbs, Nat.mul_assoc]
    apply Nat.mul_le_mul_left
    omega)
  have p : (0 : Int) < ((2 ^ 1042 : Nat) : Int) := by have := Nat.two_pow_pos 1042; omega
  refine dcmp_gt.mpr ⟨own_dnn ha hb h0, by decide +kernel, ?_⟩
  have q : zval b64 (val64 0) < zval b64 (val64 (FP.ddiv (FP.l2d a) (FP.l2d b))) := by rw [own_v0]; omega
  exact q
theorem own_gt1 {a b : Int64} (ha : Small53 a) (hb : Small53 b) (h0 : 0 < b.toInt) (h1 : b.toInt ≤ 2147483648) (h : b.toInt < a.toInt) : (0 : Int32) < cmpValue (FP.dcmp (FP.ddiv (FP.l2d a) (FP.l2d b)) (4607182418800017408 : UInt64)) .g := by
  apply own_isgt
  have g := own_zge ha hb h0 (by omega) own_vb (by
    have e1 : (2 : Nat) ^ 1074 = 2 ^ 1043 * 2147483648 := by rw [show (2147483648 : Nat) = 2 ^ 31 from rfl, ← Nat.pow_add]
    rw [e1]
    have e2 : a.toInt.natAbs * (2 ^ 1043 * 2147483648) = 2 ^ 1043 * (a.toInt.natAbs * 2147483648) := by rw [Nat.mul_left_comm]
    have e3 : (2 ^ 1043 * 2147483648 + 2 ^ 1043) * b.toInt.natAbs = 2 ^ 1043 * ((2147483648 + 1) * b.toInt.natAbs) := by
      rw [← Nat.mul_assoc, Nat.mul_add, Nat.mul_one]
    rw [e2, e3]
    apply Nat.mul_le_mul_left
    omega)
  refine dcmp_gt.mpr ⟨own_dnn ha hb h0, by decide +kernel, ?_⟩
  have p : (0 : Int) < ((2 ^ 1043 : Nat) : Int) := by have := Nat.two_pow_pos 1043; omega
  have q : zval b64 (val64 4607182418800017408) < zval b64 (val64 (FP.ddiv (FP.l2d a) (FP.l2d b))) := by
    rw [own_v1]
    rw [Int.natCast_add] at g
    omega
  exact q
end OwnM
section OwnE
open Jvm.FP.Core
/-- the double x is the number n / 2^m -/
def own_E (n : Int) (m : Nat) (x : UInt64) : Prop := ∃ s c q, val64 x = .fin s c q ∧ c * 2 ^ (q + m).toNat = n.natAbs * 2 ^ (-(q + m)).toNat ∧ (n ≠ 0 → s = decide (n < 0))
theorem own_E_nn {n : Int} {m : Nat} {x : UInt64} (h : own_E n m x) : Jvm.Free.Fl.NoNaN64 x := by
  obtain ⟨s, c, q, h1, -⟩ := h
  exact Jvm.Free.Fl.noNaN64_no.mpr ((notNaN_iff x).mpr (by rw [h1]; nofun))
theorem own_E_fin {n : Int} {m : Nat} {x : UInt64} (h : own_E n m x) : Jvm.Free.Fl.Fin64 x := by
  obtain ⟨s, c, q, h1, -⟩ := h
  exact Jvm.Free.Fl.fin64_core.mpr ⟨s, c, q, h1⟩
theorem own_E_l2d {a : Int64} (h : Small53 a) : own_E a.toInt 0 (FP.l2d a) := by
  have w := l2d_whole h
  obtain ⟨c, q, e⟩ := l2d_shape a
  rw [e] at w
  refine ⟨_, c, q, e, ?_, fun _ => rfl⟩
  have := whole_natAbs w
  rw [show q + ((0 : Nat) : Int) = q by omega]
  exact this
theorem own_exact (s : Bool) {N m : Nat} (hN : N ≤ 9007199254740992) (hm : m ≤ 1000) : ∃ c q, roundRatio b64 s N 1 (-(m : Int)) = .fin s c q ∧ c * 2 ^ (q + m).toNat = N * 2 ^ (-(q + m)).toNat := by
  by_cases h0 : N = 0
  · subst h0
    exact ⟨0, b64.qmin, rfl, by simp⟩
  · obtain ⟨c, q, hf, he⟩ := natFit good_b64 wide_b64 s (n := N) (by rw [show b64.p = 53 from rfl]; exact hN)
    obtain ⟨f1, f2, f3, f4⟩ := hf
    have hq : b64.qmin = -1074 := by decide
    have hq2 : b64.qmax = 971 := by decide
    have ht : b64.tails = 2 ^ 52 := by decide
    have hp : (2 : Nat) ^ b64.p = 2 ^ 53 := by decide
    rw [hq] at f2 f4
    rw [hq2] at f3
    rw [ht] at f4
    rw [hp] at f1
    have hlo : -53 < q := by
      apply Int.lt_of_not_ge
      intro z
      rw [show (q - 0).toNat = 0 by omega] at he
      have h1 : 2 ^ 53 ≤ 2 ^ (0 - q).toNat := Nat.pow_le_pow_right (by decide) (by omega)
      have h2 : 1 * 2 ^ (0 - q).toNat ≤ N * 2 ^ (0 - q).toNat := Nat.mul_le_mul_right _ (by omega)
      omega
    have hc : 2 ^ 52 ≤ c := by
      rcases f4 with h | h
      · omega
      · exact h
    refine ⟨c, q - m, roundRatio_exact good_b64 (by decide) ⟨by rw [hp]; exact f1, by rw [hq]; omega, by rw [hq2]; omega, Or.inr (by rw [ht]; exact hc)⟩ ?_, ?_⟩
    · rw [show (-(m : Int) - (q - m)).toNat = (0 - q).toNat by omega, show (q - m - -(m : Int)).toNat = (q - 0).toNat by omega]
      exact he
    · rw [show (q - m + m).toNat = (q - 0).toNat by omega, show (-(q - m + m)).toNat = (0 - q).toNat by omega]
      rw [Nat.mul_one] at he
      exact he.symm
theorem own_pow2 {c d A B : Nat} {a b : Int} (ea : c * 2 ^ a.toNat = A * 2 ^ (-a).toNat) (eb : d * 2 ^ b.toNat = B * 2 ^ (-b).toNat) : c * d * 2 ^ (a + b).toNat = A * B * 2 ^ (-(a + b)).toNat := by
  have hx : (a + b).toNat + (-a).toNat + (-b).toNat = (-(a + b)).toNat + a.toNat + b.toNat := by omega
  generalize (a + b).toNat = u at *
  generalize (-(a + b)).toNat = v at *
  generalize a.toNat = a1 at *
  generalize (-a).toNat = a2 at *
  generalize b.toNat = b1 at *
  generalize (-b).toNat = b2 at *
  have hp : 0 < 2 ^ a1 * 2 ^ b1 := Nat.mul_pos (Nat.two_pow_pos _) (Nat.two_pow_pos _)
  apply Nat.eq_of_mul_eq_mul_right hp
  have e1 : c * d * 2 ^ u * (2 ^ a1 * 2 ^ b1) = (c * 2 ^ a1) * (d * 2 ^ b1) * 2 ^ u := by
    simp only [Nat.mul_assoc, Nat.mul_comm, Nat.mul_left_comm]
  have e2 : A * B * 2 ^ v * (2 ^ a1 * 2 ^ b1) = A * B * 2 ^ (v + a1 + b1) := by
    rw [Nat.pow_add, Nat.pow_add]; simp only [Nat.mul_assoc]
  have e3 : A * 2 ^ a2 * (B * 2 ^ b2) * 2 ^ u = A * B * 2 ^ (u + a2 + b2) := by
    rw [Nat.pow_add, Nat.pow_add]; simp only [Nat.mul_assoc, Nat.mul_comm, Nat.mul_left_comm]
  rw [e1, e2, ea, eb, e3, hx]
theorem own_E_of {n : Int} {m : Nat} {x : UInt64} {s : Bool} {c : Nat} {q : Int} (hx : val64 x = round b64 (.fin s c q)) (h : c * 2 ^ (q + m).toNat = n.natAbs * 2 ^ (-(q + m)).toNat) (hs : n ≠ 0 → s = decide (n < 0)) (hn : n.natAbs ≤ 9007199254740992) (hm : m ≤ 1000) : own_E n m x := by
  obtain ⟨c', q', h1, h2⟩ := own_exact s hn hm
  have e : round b64 (.fin s c q) = roundRatio b64 s n.natAbs 1 (-(m : Int)) := by
    show roundRatio b64 s c 1 q = _
    refine roundRatio_congr (by decide) (by decide) ?_
    rw [show (q - -(m : Int)).toNat = (q + m).toNat by omega, show (-(m : Int) - q).toNat = (-(q + m)).toNat by omega, Nat.mul_one, Nat.mul_one]
    exact h
  exact ⟨s, c', q', by rw [hx, e, h1], h2, hs⟩
theorem own_sx {n k : Int} {s t : Bool} (h1 : n ≠ 0 → s = decide (n < 0)) (h2 : k ≠ 0 → t = decide (k < 0)) : n * k ≠ 0 → (s != t) = decide (n * k < 0) := by
  intro h
  have hn : n ≠ 0 := fun z => h (by rw [z, Int.zero_mul])
  have hk : k ≠ 0 := fun z => h (by rw [z, Int.mul_zero])
  rw [h1 hn, h2 hk]
  by_cases a : n < 0 <;> by_cases b : k < 0
  · have : ¬ (n * k < 0) := by have := Int.mul_pos_of_neg_of_neg a b; omega
    simp [a, b, this]
  · have : n * k < 0 := Int.mul_neg_of_neg_of_pos a (by omega)
    simp [a, b, this]
  · have : n * k < 0 := Int.mul_neg_of_pos_of_neg (by omega) b
    simp [a, b, this]
  · have : ¬ (n * k < 0) := by have := Int.mul_nonneg (show 0 ≤ n by omega) (show 0 ≤ k by omega); omega
    simp [a, b, this]
theorem own_E_mul {n k : Int} {m l : Nat} {x y : UInt64} (hx : own_E n m x) (hy : own_E k l y) (hb : (n * k).natAbs ≤ 9007199254740992) (hm : m + l ≤ 1000) : own_E (n * k) (m + l) (FP.dmul x y) := by
  obtain ⟨s, c, q, h1, h2, h3⟩ := hx
  obtain ⟨t, d, r, g1, g2, g3⟩ := hy
  have e := val64_dmul x y
  rw [h1, g1] at e
  refine own_E_of (s := s != t) (c := c * d) (q := q + r) e ?_ (own_sx h3 g3) hb hm
  have p := own_pow2 h2 g2
  rw [show q + r + ((m + l : Nat) : Int) = (q + m) + (r + l) by omega, Int.natAbs_mul]
  exact p
theorem own_whole {n : Int} {s : Bool} {c : Nat} {q : Int} (h : c * 2 ^ q.toNat = n.natAbs * 2 ^ (-q).toNat) (hs : n ≠ 0 → s = decide (n < 0)) : Whole n (.fin s c q) := by
  show signed s (c * 2 ^ q.toNat) = n * ((2 ^ (-q).toNat : Nat) : Int)
  rw [h]
  by_cases z : n = 0
  · subst z; simp [signed_zero]
  · rw [hs z, signed_mul]
    congr 1
    by_cases a : n < 0
    · rw [show decide (n < 0) = true from decide_eq_true a]; show -((n.natAbs : Nat) : Int) = n; omega
    · rw [show decide (n < 0) = false from decide_eq_false a]; show ((n.natAbs : Nat) : Int) = n; omega
theorem own_E_add {n k : Int} {m : Nat} {x y : UInt64} (hx : own_E n m x) (hy : own_E k m y) (hb : (n + k).natAbs ≤ 9007199254740992) (hm : m ≤ 1000) : own_E (n + k) m (FP.dadd x y) := by
  obtain ⟨s, c, q, h1, h2, h3⟩ := hx
  obtain ⟨t, d, r, g1, g2, g3⟩ := hy
  have e := val64_dadd x y
  rw [h1, g1] at e
  have w := whole_sum (own_whole h2 h3) (own_whole g2 g3)
  have hmin : min (q + (m : Int)) (r + m) = min q r + m := by omega
  have hu : sumUnits s c (q + m) t d (r + m) (min (q + (m : Int)) (r + m)) = sumUnits s c q t d r (min q r) := by
    show signed s (c * 2 ^ _) + signed t (d * 2 ^ _) = signed s (c * 2 ^ _) + signed t (d * 2 ^ _)
    rw [hmin, show (q + (m : Int) - (min q r + m)).toNat = (q - min q r).toNat by omega, show (r + (m : Int) - (min q r + m)).toNat = (r - min q r).toNat by omega]
  have w' : Whole (n + k) (.fin (sumSign s t (sumUnits s c q t d r (min q r))) (sumUnits s c q t d r (min q r)).natAbs (min q r + m)) := by
    have : exactSum (.fin s c (q + (m : Int))) (.fin t d (r + m)) = .fin (sumSign s t (sumUnits s c q t d r (min q r))) (sumUnits s c q t d r (min q r)).natAbs (min q r + m) := by
      show Datum.fin _ _ _ = _
      rw [hu, hmin]
    rw [← this]; exact w
  exact own_E_of e (whole_natAbs w') (fun z => whole_sign w' z) hb hm
theorem own_E_sub {n k : Int} {m : Nat} {x y : UInt64} (hx : own_E n m x) (hy : own_E k m y) (hb : (n - k).natAbs ≤ 9007199254740992) (hm : m ≤ 1000) : own_E (n - k) m (FP.dsub x y) := by
  obtain ⟨s, c, q, h1, h2, h3⟩ := hx
  obtain ⟨t, d, r, g1, g2, g3⟩ := hy
  have e := val64_dsub x y
  rw [h1, g1] at e
  have w := whole_sum (own_whole h2 h3) (whole_negate (own_whole g2 g3))
  have hmin : min (q + (m : Int)) (r + m) = min q r + m := by omega
  have hu : sumUnits s c (q + m) (!t) d (r + m) (min (q + (m : Int)) (r + m)) = sumUnits s c q (!t) d r (min q r) := by
    show signed s (c * 2 ^ _) + signed (!t) (d * 2 ^ _) = signed s (c * 2 ^ _) + signed (!t) (d * 2 ^ _)
    rw [hmin, show (q + (m : Int) - (min q r + m)).toNat = (q - min q r).toNat by omega, show (r + (m : Int) - (min q r + m)).toNat = (r - min q r).toNat by omega]
  have w' : Whole (n - k) (.fin (sumSign s (!t) (sumUnits s c q (!t) d r (min q r))) (sumUnits s c q (!t) d r (min q r)).natAbs (min q r + m)) := by
    have : exactSum (.fin s c (q + (m : Int))) (.fin (!t) d (r + m)) = .fin (sumSign s (!t) (sumUnits s c q (!t) d r (min q r))) (sumUnits s c q (!t) d r (min q r)).natAbs (min q r + m) := by
      show Datum.fin _ _ _ = _
      rw [hu, hmin]
    rw [← this]; exact w
  exact own_E_of e (whole_natAbs w') (fun z => whole_sign w' z) hb hm
theorem own_E_up {n : Int} {m : Nat} {x : UInt64} (k : Nat) (h : own_E n m x) : own_E (n * ((2 ^ k : Nat) : Int)) (m + k) x := by
  obtain ⟨s, c, q, h1, h2, h3⟩ := h
  refine ⟨s, c, q, h1, ?_, fun z => ?_⟩
  · have p := own_pow2 (c := c) (d := 1) (A := n.natAbs) (B := 2 ^ k) (a := q + m) (b := (k : Int)) h2 (by rw [show ((k : Int)).toNat = k by omega, show (-(k : Int)).toNat = 0 by omega]; omega)
    rw [Nat.mul_one] at p
    rw [Int.natAbs_mul, Int.natAbs_natCast, show q + ((m + k : Nat) : Int) = q + m + k by omega]
    exact p
  · have hn : n ≠ 0 := fun y => z (by rw [y, Int.zero_mul])
    have hk : (0 : Int) < ((2 ^ k : Nat) : Int) := by have := Nat.two_pow_pos k; omega
    rw [h3 hn]
    apply decide_eq_decide.mpr
    constructor
    · intro y; exact Int.mul_neg_of_neg_of_pos y hk
    · intro y
      apply Int.lt_of_not_ge
      intro y2
      have := Int.mul_nonneg y2 (Int.le_of_lt hk)
      omega
theorem own_E_div {n k : Int} {m l : Nat} {x y : UInt64} (hx : own_E n m x) (hy : own_E k l y) (hk : 0 < k) : ∃ sg : Bool, val64 (FP.ddiv x y) = roundRatio b64 sg n.natAbs k.natAbs ((l : Int) - m) ∧ (n ≠ 0 → sg = decide (n < 0)) := by
  obtain ⟨s, c, q, h1, h2, h3⟩ := hx
  obtain ⟨t, d, r, g1, g2, g3⟩ := hy
  have e := val64_ddiv x y
  rw [h1, g1] at e
  have d0 : ¬ d = 0 := fun z => by
    rw [z, Nat.zero_mul] at g2
    have := Nat.mul_pos (show 0 < k.natAbs by omega) (Nat.two_pow_pos (-(r + (l : Int))).toNat)
    omega
  have ht : t = false := by rw [g3 (by omega)]; exact decide_eq_false (by omega)
  subst ht
  refine ⟨s, ?_, h3⟩
  refine e.trans ?_
  show (if d = 0 then (if c = 0 then Datum.nan else .inf _) else roundRatio b64 (s != false) c d (q - r)) = _
  rw [if_neg d0, show (s != false) = s by cases s <;> rfl]
  refine roundRatio_congr (Nat.pos_of_ne_zero d0) (by omega) ?_
  have p := own_pow h2 g2
  rw [show (q - r - ((l : Int) - m)).toNat = ((q + m) - (r + l) - 0).toNat by omega, show ((l : Int) - m - (q - r)).toNat = (0 - ((q + m) - (r + l))).toNat by omega]
  exact p
theorem own_E_half {n : Int} {m : Nat} {x y : UInt64} (k : Nat) (hx : own_E n m x) (hy : own_E ((2 ^ k : Nat) : Int) 0 y) (hb : n.natAbs ≤ 9007199254740992) (hm : m + k ≤ 1000) : own_E n (m + k) (FP.ddiv x y) := by
  have hp : (0 : Int) < ((2 ^ k : Nat) : Int) := by have := Nat.two_pow_pos k; omega
  obtain ⟨sg, h1, h2⟩ := own_E_div hx hy hp
  have e : roundRatio b64 sg n.natAbs (((2 ^ k : Nat) : Int)).natAbs (((0 : Nat) : Int) - m) = roundRatio b64 sg n.natAbs 1 (-((m + k : Nat) : Int)) := by
    refine roundRatio_congr (by omega) (by decide) ?_
    rw [Int.natAbs_natCast, show (((0 : Nat) : Int) - m - -((m + k : Nat) : Int)).toNat = k by omega, show (-((m + k : Nat) : Int) - (((0 : Nat) : Int) - m)).toNat = 0 by omega]
    rw [Nat.mul_one, Nat.pow_zero, Nat.mul_one]
  obtain ⟨c, q, g1, g2⟩ := own_exact sg hb hm
  exact ⟨sg, c, q, by rw [h1, e, g1], g2, h2⟩
/-- two quotients of the same value compare as equal -/
theorem own_E_same {n k n' k' : Int} {m l : Nat} {x y x' y' : UInt64} (hx : own_E n m x) (hy : own_E k l y) (hk : 0 < k) (hx' : own_E n' 0 x') (hy' : own_E k' 0 y') (hk' : 0 < k') (hz : n = 0 ↔ n' = 0) (hsg : n < 0 ↔ n' < 0) (h : n.natAbs * k'.natAbs * 2 ^ ((l : Int) - m).toNat = n'.natAbs * k.natAbs * 2 ^ ((m : Int) - l).toNat) (o : ClassFile.CmpOp) : cmpValue (FP.dcmp (FP.ddiv x y) (FP.ddiv x' y')) o = 0 := by
  obtain ⟨s1, h1, h2⟩ := own_E_div hx hy hk
  obtain ⟨s2, g1, g2⟩ := own_E_div hx' hy' hk'
  have e : ∀ s, roundRatio b64 s n.natAbs k.natAbs ((l : Int) - m) = roundRatio b64 s n'.natAbs k'.natAbs (((0 : Nat) : Int) - ((0 : Nat) : Int)) := fun s => by
    refine roundRatio_congr (by omega) (by omega) ?_
    rw [show ((l : Int) - m - (((0 : Nat) : Int) - ((0 : Nat) : Int))).toNat = ((l : Int) - m).toNat by omega, show (((0 : Nat) : Int) - ((0 : Nat) : Int) - ((l : Int) - m)).toNat = ((m : Int) - l).toNat by omega]
    exact h
  by_cases z : n = 0
  · have z' := hz.mp z
    rw [z'] at g1
    rw [z] at h1
    have hd : FP.Core.dcmp (FP.ddiv x y) (FP.ddiv x' y') = some .eq := dcmp_eq.mpr ⟨by rw [h1]; nofun, by rw [g1]; nofun, by
      rw [h1, g1]
      show signed s1 (0 * _) = signed s2 (0 * _)
      rw [Nat.zero_mul, signed_zero, signed_zero]⟩
    rw [show FP.dcmp (FP.ddiv x y) (FP.ddiv x' y') = _ from hd]
    cases o <;> rfl
  · have z' : n' ≠ 0 := fun y => z (hz.mpr y)
    have hs : s1 = s2 := by rw [h2 z, g2 z']; exact decide_eq_decide.mpr hsg
    rw [e s1, hs] at h1
    exact own_eq0 h1 g1 o
end OwnE
section OwnH
open Jvm.FP.Core
theorem own_zm {n : Int} {m : Nat} {c : Nat} {q : Int} (h : c * 2 ^ (q + m).toNat = n.natAbs * 2 ^ (-(q + m)).toNat) (hq : -1074 ≤ q) (hm : m ≤ 1074) : c * 2 ^ (q + 1074).toNat = n.natAbs * 2 ^ (1074 - m) := by
  by_cases z : 0 ≤ q + m
  · rw [show (-(q + (m : Int))).toNat = 0 by omega, Nat.pow_zero, Nat.mul_one] at h
    rw [← h, Nat.mul_assoc, ← Nat.pow_add, show (q + (m : Int)).toNat + (1074 - m) = (q + 1074).toNat by omega]
  · rw [show (q + (m : Int)).toNat = 0 by omega, Nat.pow_zero, Nat.mul_one] at h
    rw [h, Nat.mul_assoc, ← Nat.pow_add, show (-(q + (m : Int))).toNat + (q + 1074).toNat = 1074 - m by omega]
theorem own_qmin : b64.qmin = -1074 := by decide
theorem own_sn (n : Int) : signed (decide (n < 0)) n.natAbs = n := by
  by_cases z : n < 0
  · rw [decide_eq_true z]
    show -((n.natAbs : Nat) : Int) = n
    omega
  · rw [decide_eq_false z]
    show ((n.natAbs : Nat) : Int) = n
    omega
theorem own_zv {n : Int} {m : Nat} {x : UInt64} (hx : own_E n m x) (hm : m ≤ 1074) : zval b64 (val64 x) = n * ((2 ^ (1074 - m) : Nat) : Int) := by
  obtain ⟨s, c, q, h1, h2, h3⟩ := hx
  have ft := val64_fits x
  rw [h1] at ft ⊢
  have hq := own_qmin
  have e := own_zm h2 (by have := ft.2.1; omega) hm
  show signed s (c * 2 ^ (q - b64.qmin).toNat) = _
  rw [hq, show (q - -1074).toNat = (q + 1074).toNat by omega, e, signed_mul]
  by_cases z : n = 0
  · rw [z]
    show signed s 0 * _ = _
    rw [signed_zero]
  · rw [h3 z, own_sn]
theorem own_E_eq {n : Int} {m : Nat} {x y : UInt64} (hx : own_E n m x) (hy : own_E n m y) (hm : m ≤ 1074) (o : ClassFile.CmpOp) : cmpValue (FP.dcmp x y) o = 0 := by
  have hd : FP.Core.dcmp x y = some .eq := dcmp_eq.mpr ⟨by obtain ⟨s, c, q, h, -⟩ := hx; rw [h]; nofun, by obtain ⟨s, c, q, h, -⟩ := hy; rw [h]; nofun, by rw [own_zv hx hm, own_zv hy hm]⟩
  rw [show FP.dcmp x y = _ from hd]
  rfl
theorem own_E0 (m : Nat) : own_E 0 m (0 : UInt64) := ⟨false, 0, b64.qmin, by decide +kernel, by simp, by simp⟩
theorem own_add0 {n : Int} {m : Nat} {x : UInt64} (hx : own_E n m x) (hb : n.natAbs ≤ 9007199254740992) (hm : m ≤ 1000) : own_E n m (FP.dadd (0 : UInt64) x) := by
  have h := own_E_add (own_E0 m) hx (by rw [Int.zero_add]; exact hb) hm
  rw [Int.zero_add] at h
  exact h
theorem own_dbl {n : Int} {m : Nat} {x y : UInt64} (hx : own_E n (m + 1) x) (hy : own_E n (m + 1) y) (hb : n.natAbs ≤ 9007199254740992) (hm : m ≤ 1000) : own_E n m (FP.dadd x y) := by
  obtain ⟨s, c, q, h1, h2, h3⟩ := hx
  obtain ⟨t, d, r, g1, g2, g3⟩ := hy
  have e := val64_dadd x y
  rw [h1, g1] at e
  have w := whole_sum (own_whole h2 h3) (own_whole g2 g3)
  have hmin : min (q + ((m + 1 : Nat) : Int)) (r + ((m + 1 : Nat) : Int)) = min q r + ((m + 1 : Nat) : Int) := by omega
  have hu : sumUnits s c (q + ((m + 1 : Nat) : Int)) t d (r + ((m + 1 : Nat) : Int)) (min (q + ((m + 1 : Nat) : Int)) (r + ((m + 1 : Nat) : Int))) = sumUnits s c q t d r (min q r) := by
    show signed s (c * 2 ^ _) + signed t (d * 2 ^ _) = signed s (c * 2 ^ _) + signed t (d * 2 ^ _)
    rw [hmin, show (q + ((m + 1 : Nat) : Int) - (min q r + ((m + 1 : Nat) : Int))).toNat = (q - min q r).toNat by omega, show (r + ((m + 1 : Nat) : Int) - (min q r + ((m + 1 : Nat) : Int))).toNat = (r - min q r).toNat by omega]
  have w' : Whole (n + n) (.fin (sumSign s t (sumUnits s c q t d r (min q r))) (sumUnits s c q t d r (min q r)).natAbs (min q r + ((m + 1 : Nat) : Int))) := by
    have : exactSum (.fin s c (q + ((m + 1 : Nat) : Int))) (.fin t d (r + ((m + 1 : Nat) : Int))) = .fin (sumSign s t (sumUnits s c q t d r (min q r))) (sumUnits s c q t d r (min q r)).natAbs (min q r + ((m + 1 : Nat) : Int)) := by
      show Datum.fin _ _ _ = _
      rw [hu, hmin]
    rw [← this]; exact w
  have v := whole_natAbs w'
  refine own_E_of e ?_ (fun z => by rw [whole_sign w' (by omega)]; exact decide_eq_decide.mpr (by omega)) hb hm
  generalize (sumUnits s c q t d r (min q r)).natAbs = C at *
  generalize min q r = Q at *
  have n2 : (n + n).natAbs = 2 * n.natAbs := by omega
  rw [n2] at v
  by_cases z : 0 ≤ Q + m
  · rw [show (-(Q + ((m + 1 : Nat) : Int))).toNat = 0 by omega, show (Q + ((m + 1 : Nat) : Int)).toNat = (Q + (m : Int)).toNat + 1 by omega, Nat.pow_succ, Nat.pow_zero, Nat.mul_one, ← Nat.mul_assoc] at v
    rw [show (-(Q + (m : Int))).toNat = 0 by omega, Nat.pow_zero, Nat.mul_one]
    omega
  · rw [show (Q + ((m + 1 : Nat) : Int)).toNat = 0 by omega, Nat.pow_zero, Nat.mul_one] at v
    rw [show (Q + (m : Int)).toNat = 0 by omega, Nat.pow_zero, Nat.mul_one, show (-(Q + (m : Int))).toNat = (-(Q + ((m + 1 : Nat) : Int))).toNat + 1 by omega, Nat.pow_succ, v, Nat.mul_comm 2, Nat.mul_assoc, Nat.mul_comm 2]
def own_Q (a b : Int64) : Prop := 0 ≤ a.toInt ∧ a.toInt ≤ b.toInt ∧ 0 < b.toInt ∧ b.toInt ≤ 4294967296
theorem own_Qa {a b : Int64} (h : own_Q a b) : Small53 a ∧ Small53 b := by
  obtain ⟨h1, h2, h3, h4⟩ := h
  exact ⟨⟨by omega, by omega⟩, ⟨by omega, by omega⟩⟩
theorem own_q {a b : Int64} (h : own_Q a b) : ∃ n m : Nat, n ≤ 9007199254740992 ∧ m ≤ 900 ∧ own_E (n : Int) (m + 1) (FP.ddiv (FP.l2d a) (FP.l2d b)) := by
  obtain ⟨sa, sb⟩ := own_Qa h
  obtain ⟨h1, h2, h3, h4⟩ := h
  have hv := own_div sa sb h3
  have hn := own_dnn sa sb h3
  have ft := val64_fits (FP.ddiv (FP.l2d a) (FP.l2d b))
  have hs : sgn (val64 (FP.ddiv (FP.l2d a) (FP.l2d b))) = false := by rw [hv, sgn_roundRatio, decide_eq_false (by omega)]
  have w := l2d_whole (a := 1) ⟨by decide, by decide⟩
  have hi : zval b64 (val64 (FP.ddiv (FP.l2d a) (FP.l2d b))) ≤ ((2 ^ 1074 : Nat) : Int) := by
    have z := own_rhi (a := a.toInt) (b := b.toInt.natAbs) (by omega) (val64_fits _) w.ne_nan (whole_zval good_b64 (val64_fits _) w) (by show _ ≤ (1 : Int) * _; omega)
    rw [hv]
    have e : zval b64 (val64 (FP.l2d 1)) = ((2 ^ 1074 : Nat) : Int) := by rw [own_l2d1]; exact own_v1
    rw [e] at z
    exact z
  have hq := own_qmin
  by_cases az : a.toInt = 0
  · have w0 := l2d_whole (a := 0) ⟨by decide, by decide⟩
    have h0 : zval b64 (val64 (FP.ddiv (FP.l2d a) (FP.l2d b))) ≤ 0 := by
      have z := own_rhi (a := a.toInt) (b := b.toInt.natAbs) (by omega) (val64_fits _) w0.ne_nan (whole_zval good_b64 (val64_fits _) w0) (by show _ ≤ (0 : Int) * _; omega)
      rw [hv]
      have e : zval b64 (val64 (FP.l2d 0)) = 0 := by rw [own_l2d0]; exact own_v0
      rw [e] at z
      exact z
    refine ⟨0, 0, by decide, by decide, ?_⟩
    cases hc : val64 (FP.ddiv (FP.l2d a) (FP.l2d b)) with
    | nan => exact absurd hc hn
    | inf s =>
      rw [hc] at h0 hs
      rw [show s = false from hs] at h0
      exact absurd h0 (by decide +kernel)
    | fin s c q =>
      rw [hc] at h0 hs
      rw [show s = false from hs] at h0
      have h0' : ((c * 2 ^ (q - b64.qmin).toNat : Nat) : Int) ≤ 0 := h0
      have c0 : c = 0 := by
        have p := Nat.two_pow_pos (q - b64.qmin).toNat
        rcases Nat.eq_zero_or_pos c with z | z
        · exact z
        · have := Nat.mul_pos z p
          omega
      exact ⟨s, c, q, hc, by rw [c0]; simp, fun z => absurd rfl z⟩
  · have lo := own_zge sa sb h3 h1 own_vs (by
      have e1 : (2 : Nat) ^ 1074 = 2 ^ 1042 * 2 ^ 32 := by rw [← Nat.pow_add]
      rw [e1, Nat.mul_comm a.toInt.natAbs, Nat.mul_assoc]
      apply Nat.mul_le_mul_left
      omega)
    cases hc : val64 (FP.ddiv (FP.l2d a) (FP.l2d b)) with
    | nan => exact absurd hc hn
    | inf s =>
      rw [hc] at hi hs
      rw [show s = false from hs] at hi
      exact absurd hi (by decide +kernel)
    | fin s c q =>
      rw [hc] at hi lo hs ft
      rw [show s = false from hs] at hi lo
      have hi' : ((c * 2 ^ (q - b64.qmin).toNat : Nat) : Int) ≤ ((2 ^ 1074 : Nat) : Int) := hi
      have lo' : ((2 ^ 1042 : Nat) : Int) ≤ ((c * 2 ^ (q - b64.qmin).toNat : Nat) : Int) := lo
      rw [hq] at hi' lo'
      obtain ⟨f1, f2, f3, f4⟩ := ft
      have hi2 := Int.ofNat_le.mp hi'
      have lo2 := Int.ofNat_le.mp lo'
      have f1' : c < 2 ^ 53 := f1
      rw [hq] at f2 f4
      have k1 : 989 < (q - -1074).toNat := by
        apply Decidable.by_contra
        intro z
        have u : c * 2 ^ (q - -1074).toNat < 2 ^ 53 * 2 ^ 989 := Nat.lt_of_le_of_lt (Nat.mul_le_mul_left c (Nat.pow_le_pow_right (by decide) (by omega : (q - -1074).toNat ≤ 989))) (Nat.mul_lt_mul_of_pos_right f1' (Nat.two_pow_pos _))
        rw [← Nat.pow_add] at u
        exact absurd lo2 (Nat.not_le.mpr u)
      have f5 : 2 ^ 52 ≤ c := f4.resolve_left (by omega)
      have k2 : (q - -1074).toNat ≤ 1022 := by
        apply Decidable.by_contra
        intro z
        have u : 2 ^ 52 * 2 ^ 1023 ≤ c * 2 ^ (q - -1074).toNat := Nat.mul_le_mul f5 (Nat.pow_le_pow_right (by decide) (by omega))
        rw [← Nat.pow_add] at u
        have v : (2 : Nat) ^ (52 + 1023) ≤ 2 ^ 1074 := Nat.le_trans u hi2
        have := (Nat.pow_le_pow_iff_right (a := 2) (by decide)).mp v
        omega
      refine ⟨c, (-q - 1).toNat, Nat.le_of_lt f1', by omega, false, c, q, by rw [hc, show s = false from hs], ?_, fun z => ?_⟩
      · rw [show (q + (((-q - 1).toNat + 1 : Nat) : Int)).toNat = 0 by omega, show (-(q + (((-q - 1).toNat + 1 : Nat) : Int))).toNat = 0 by omega]
        simp
      · exact (decide_eq_false (by omega)).symm
theorem own_i1 : own_E ((2 ^ 0 : Nat) : Int) 0 (FP.i2d (1 : Int32)) := by rw [own_i2dl]; exact own_E_l2d ⟨by decide, by decide⟩
theorem own_i2 : own_E ((2 ^ 1 : Nat) : Int) 0 (FP.i2d (2 : Int32)) := by rw [own_i2dl]; exact own_E_l2d ⟨by decide, by decide⟩
theorem own_A {a b : Int64} (h : own_Q a b) : Jvm.Free.Fl.NoNaN64 (FP.ddiv (FP.l2d a) (FP.l2d b)) ∧ Jvm.Free.Fl.NoNaN64 (FP.dadd (0 : UInt64) (FP.ddiv (FP.l2d a) (FP.l2d b))) ∧ Jvm.Free.Fl.NoNaN64 (FP.ddiv (FP.dadd (0 : UInt64) (FP.ddiv (FP.l2d a) (FP.l2d b))) (FP.i2d (1 : Int32))) ∧ Jvm.Free.Fl.NoNaN64 (FP.dadd (FP.dadd (0 : UInt64) (FP.ddiv (FP.l2d a) (FP.l2d b))) (FP.ddiv (FP.l2d a) (FP.l2d b))) ∧ Jvm.Free.Fl.NoNaN64 (FP.ddiv (FP.dadd (FP.dadd (0 : UInt64) (FP.ddiv (FP.l2d a) (FP.l2d b))) (FP.ddiv (FP.l2d a) (FP.l2d b))) (FP.i2d (2 : Int32))) ∧ (cmpValue (FP.dcmp (FP.ddiv (FP.dadd (0 : UInt64) (FP.ddiv (FP.l2d a) (FP.l2d b))) (FP.i2d (1 : Int32))) (FP.ddiv (FP.l2d a) (FP.l2d b))) .l) = (0 : Int32) ∧ (cmpValue (FP.dcmp (FP.ddiv (FP.dadd (FP.dadd (0 : UInt64) (FP.ddiv (FP.l2d a) (FP.l2d b))) (FP.ddiv (FP.l2d a) (FP.l2d b))) (FP.i2d (2 : Int32))) (FP.ddiv (FP.l2d a) (FP.l2d b))) .l) = (0 : Int32) := by
  obtain ⟨n, m, hn, hm, hx⟩ := own_q h
  have h0 := own_add0 hx (by omega) (by omega)
  have h1 := own_E_half 0 h0 own_i1 (by omega) (by omega)
  have h2 := own_dbl h0 hx (by omega) (by omega)
  have h3 := own_E_half 1 h2 own_i2 (by omega) (by omega)
  exact ⟨own_E_nn hx, own_E_nn h0, own_E_nn h1, own_E_nn h2, own_E_nn h3, own_E_eq h1 hx (by omega) _, own_E_eq h3 hx (by omega) _⟩
theorem own_same {x : UInt64} (h : Jvm.Free.Fl.NoNaN64 x) : (cmpValue (FP.dcmp x x) .l) = (0 : Int32) := by
  have n := (notNaN_iff x).mp (Jvm.Free.Fl.noNaN64_no.mp h)
  rw [show FP.dcmp x x = some .eq from dcmp_eq.mpr ⟨n, n, rfl⟩]
  rfl
end OwnH
section OwnG
open Jvm.FP.Core
def own_srt (x0 x1 lo hi : Int32) : Prop := (x1 < x0 ∧ lo = x1 ∧ hi = x0) ∨ (¬ (x1 < x0) ∧ lo = x0 ∧ hi = x1)
def own_pos (x c : Int32) : Prop := ((0 : Int32) < x ∧ c = (1 : Int32)) ∨ (¬ ((0 : Int32) < x) ∧ c = (0 : Int32))
def own_pd (x : Int32) (z : UInt64) : Prop := ((0 : Int32) < x ∧ z = (4607182418800017408 : UInt64)) ∨ (¬ ((0 : Int32) < x) ∧ z = (0 : UInt64))
def own_pe (x y w : Int32) (z : UInt64) : Prop := ((0 : Int32) < x ∧ (0 : Int32) < y ∧ w = (2 : Int32) ∧ z = (4607182418800017408 : UInt64)) ∨ ((0 : Int32) < x ∧ ¬ ((0 : Int32) < y) ∧ w = (1 : Int32) ∧ z = (4602678819172646912 : UInt64)) ∨ (¬ ((0 : Int32) < x) ∧ (0 : Int32) < y ∧ w = (1 : Int32) ∧ z = (4602678819172646912 : UInt64)) ∨ (¬ ((0 : Int32) < x) ∧ ¬ ((0 : Int32) < y) ∧ w = (0 : Int32) ∧ z = (0 : UInt64))
theorem own_srt_ex (x0 x1 : Int32) : ∃ lo hi, own_srt x0 x1 lo hi := by
  by_cases c : x1 < x0
  · exact ⟨_, _, Or.inl ⟨c, rfl, rfl⟩⟩
  · exact ⟨_, _, Or.inr ⟨c, rfl, rfl⟩⟩
def own_zk (x z : Int32) (k : Int64) : Prop := ((x &&& (1 : Int32)) = (0 : Int32) ∧ z = (0 : Int32) ∧ k = (1 : Int64)) ∨ (¬ ((x &&& (1 : Int32)) = (0 : Int32)) ∧ z = (1 : Int32) ∧ k = (2 : Int64))
theorem own_zk_ex (x : Int32) : ∃ z k, own_zk x z k := by
  by_cases c : (x &&& (1 : Int32)) = (0 : Int32)
  · exact ⟨_, _, Or.inl ⟨c, rfl, rfl⟩⟩
  · exact ⟨_, _, Or.inr ⟨c, rfl, rfl⟩⟩
theorem own_pos_ex (x : Int32) : ∃ c, own_pos x c := by
  by_cases c : (0 : Int32) < x
  · exact ⟨_, Or.inl ⟨c, rfl⟩⟩
  · exact ⟨_, Or.inr ⟨c, rfl⟩⟩
theorem own_pd_ex (x : Int32) : ∃ c, own_pd x c := by
  by_cases c : (0 : Int32) < x
  · exact ⟨_, Or.inl ⟨c, rfl⟩⟩
  · exact ⟨_, Or.inr ⟨c, rfl⟩⟩
theorem own_pe_ex (x y : Int32) : ∃ w z, own_pe x y w z := by
  by_cases c : (0 : Int32) < x <;> by_cases d : (0 : Int32) < y
  · exact ⟨_, _, Or.inl ⟨c, d, rfl, rfl⟩⟩
  · exact ⟨_, _, Or.inr (Or.inl ⟨c, d, rfl, rfl⟩)⟩
  · exact ⟨_, _, Or.inr (Or.inr (Or.inl ⟨c, d, rfl, rfl⟩))⟩
  · exact ⟨_, _, Or.inr (Or.inr (Or.inr ⟨c, d, rfl, rfl⟩))⟩
theorem own_asym {x0 x1 : Int32} (h : x1 < x0) : ¬ (x0 < x1) := by
  rw [Int32.lt_iff_toInt_lt] at *
  omega
theorem own_eqm {x0 x1 : Int32} (c : ¬ (x1 < x0)) (d : ¬ (x0 < x1)) : x1 = x0 := by
  rw [Int32.lt_iff_toInt_lt] at c d
  exact Int32.toInt_inj.mp (by omega)
theorem own_m {z x : Int32} (h : z = (x &&& (2147483647 : Int32))) : 0 ≤ z.toInt ∧ z.toInt < 2147483648 := by
  subst h
  have h1 := c_mask x 2147483647 31 (by decide) (by decide)
  omega
theorem own_nn0 {z x : Int32} (h : z = (x &&& (2147483647 : Int32))) : ¬ (z < (0 : Int32)) := by
  rw [Int32.lt_iff_toInt_lt]
  have := own_m h
  have : (0 : Int32).toInt = 0 := rfl
  omega
def own_M (m0 m1 d0 d1 : Int32) : Prop := 0 ≤ m0.toInt ∧ 0 ≤ m1.toInt ∧ 0 ≤ d0.toInt ∧ 0 ≤ d1.toInt ∧ 0 < m0.toInt + m1.toInt ∧ 0 < d0.toInt + d1.toInt
theorem own_t (a b : Int32) : ((a.toInt64) + (b.toInt64)).toInt = a.toInt + b.toInt := by
  have h := c_ladd a.toInt64 b.toInt64
  rw [c_i2l, c_i2l] at h
  have := rng32 a
  have := rng32 b
  have := rng64 (a.toInt64 + b.toInt64)
  omega
theorem own_mk {a b c d x y z w : Int32} (ha : a = (x &&& (2147483647 : Int32))) (hb : b = (y &&& (2147483647 : Int32))) (hc : c = (z &&& (2147483647 : Int32))) (hd : d = (w &&& (2147483647 : Int32))) (h1 : ¬ (((a.toInt64) + (b.toInt64)) = (0 : Int64))) (h2 : ¬ (((c.toInt64) + (d.toInt64)) = (0 : Int64))) : own_M a b c d := by
  have g1 : ¬ (((a.toInt64) + (b.toInt64)).toInt = 0) := fun z => h1 (Int64.toInt_inj.mp z)
  have g2 : ¬ (((c.toInt64) + (d.toInt64)).toInt = 0) := fun z => h2 (Int64.toInt_inj.mp z)
  rw [own_t] at g1 g2
  have := own_m ha
  have := own_m hb
  have := own_m hc
  have := own_m hd
  exact ⟨by omega, by omega, by omega, by omega, by omega, by omega⟩
variable {m0 m1 d0 d1 lo hi : Int32}
theorem own_z1 (a : Int32) : ((0 : Int64) + (a.toInt64)).toInt = a.toInt := by rw [Int64.zero_add, c_i2l]
theorem own_t1 (a b : Int32) : (((0 : Int64) + (a.toInt64)) + (b.toInt64)).toInt = a.toInt + b.toInt := by rw [Int64.zero_add, own_t]
theorem own_z2 (a : Int32) : FP.l2d ((0 : Int64) + (a.toInt64)) = FP.i2d a := by rw [Int64.zero_add, own_i2dl]
theorem own_n0 (M : own_M m0 m1 d0 d1) : ¬ ((((0 : Int64) + (m0.toInt64)) + (m1.toInt64)) = (0 : Int64)) := fun z => by
  have h := own_t1 m0 m1
  rw [z] at h
  obtain ⟨-, -, -, -, h5, -⟩ := M
  have : (0 : Int64).toInt = 0 := rfl
  omega
theorem own_n1 (M : own_M m0 m1 d0 d1) : ¬ ((((0 : Int64) + (d0.toInt64)) + (d1.toInt64)) = (0 : Int64)) := fun z => by
  have h := own_t1 d0 d1
  rw [z] at h
  obtain ⟨-, -, -, -, -, h6⟩ := M
  have : (0 : Int64).toInt = 0 := rfl
  omega
theorem own_mkQ {a b : Int64} {x y : Int} (ha : a.toInt = x) (hb : b.toInt = y) (h : 0 ≤ x ∧ x ≤ y ∧ 0 < y ∧ y ≤ 4294967296) : own_Q a b := by subst ha hb; exact h
theorem own_st (S : own_srt m0 m1 lo hi) : m0.toInt ≤ hi.toInt ∧ hi.toInt + lo.toInt = m0.toInt + m1.toInt ∧ m1.toInt ≤ hi.toInt ∧ lo.toInt ≤ hi.toInt := by
  rcases S with ⟨c, rfl, rfl⟩ | ⟨c, rfl, rfl⟩ <;> rw [Int32.lt_iff_toInt_lt] at c <;> omega
theorem own_h1 (M : own_M m0 m1 d0 d1) (S : own_srt m0 m1 lo hi) : own_Q ((0 : Int64) + (m0.toInt64)) ((0 : Int64) + (hi.toInt64)) ∧ own_Q (((0 : Int64) + (m0.toInt64)) + (m1.toInt64)) (((0 : Int64) + (hi.toInt64)) + (lo.toInt64)) := by
  have r0 := rng32 m0
  have r1 := rng32 m1
  have r2 := rng32 hi
  have s := own_st S
  obtain ⟨h1, h2, h3, h4, h5, h6⟩ := M
  exact ⟨own_mkQ (own_z1 _) (own_z1 _) ⟨by omega, by omega, by omega, by omega⟩, own_mkQ (own_t1 _ _) (own_t1 _ _) ⟨by omega, by omega, by omega, by omega⟩⟩
theorem own_rh (M : own_M m0 m1 d0 d1) : own_Q ((0 : Int64) + (m0.toInt64)) (((0 : Int64) + (m0.toInt64)) + (m1.toInt64)) ∧ own_Q (((0 : Int64) + (m0.toInt64)) + (m1.toInt64)) (((0 : Int64) + (m0.toInt64)) + (m1.toInt64)) := by
  have r0 := rng32 m0
  have r1 := rng32 m1
  obtain ⟨h1, h2, h3, h4, h5, h6⟩ := M
  exact ⟨own_mkQ (own_z1 _) (own_t1 _ _) ⟨by omega, by omega, by omega, by omega⟩, own_mkQ (own_t1 _ _) (own_t1 _ _) ⟨by omega, by omega, by omega, by omega⟩⟩
theorem own_cp (M : own_M m0 m1 d0 d1) : own_Q ((0 : Int64) + (d0.toInt64)) (((0 : Int64) + (d0.toInt64)) + (d1.toInt64)) ∧ own_Q (((0 : Int64) + (d0.toInt64)) + (d1.toInt64)) (((0 : Int64) + (d0.toInt64)) + (d1.toInt64)) := by
  have r0 := rng32 d0
  have r1 := rng32 d1
  obtain ⟨h1, h2, h3, h4, h5, h6⟩ := M
  exact ⟨own_mkQ (own_z1 _) (own_t1 _ _) ⟨by omega, by omega, by omega, by omega⟩, own_mkQ (own_t1 _ _) (own_t1 _ _) ⟨by omega, by omega, by omega, by omega⟩⟩
theorem own_nd {a b : Int64} {x y : Int} (ha : a.toInt = x) (hb : b.toInt = y) (h : 0 ≤ x ∧ x ≤ 1099511627776 ∧ 0 < y ∧ y ≤ 1099511627776) : Jvm.Free.Fl.NoNaN64 (FP.ddiv (FP.l2d a) (FP.l2d b)) := by
  subst ha hb
  exact own_nn (own_div ⟨by omega, by omega⟩ ⟨by omega, by omega⟩ h.2.2.1)
theorem own_2 (a : Int64) (h : 0 ≤ a.toInt ∧ a.toInt ≤ 4294967296) : (a + a).toInt = a.toInt + a.toInt := by
  have := c_ladd a a
  have := rng64 (a + a)
  omega
theorem own_ns1 {a b : Int64} (h : own_Q a b) : Jvm.Free.Fl.NoNaN64 (FP.ddiv (FP.l2d ((0 : Int64) + a)) (FP.l2d ((0 : Int64) + b))) := by
  rw [Int64.zero_add, Int64.zero_add]
  obtain ⟨h1, h2, h3, h4⟩ := h
  exact own_nd rfl rfl ⟨by omega, by omega, by omega, by omega⟩
theorem own_ns2 {a b : Int64} (h : own_Q a b) : Jvm.Free.Fl.NoNaN64 (FP.ddiv (FP.l2d (((0 : Int64) + a) + a)) (FP.l2d (((0 : Int64) + b) + b))) := by
  rw [Int64.zero_add, Int64.zero_add]
  obtain ⟨h1, h2, h3, h4⟩ := h
  exact own_nd (own_2 a ⟨by omega, by omega⟩) (own_2 b ⟨by omega, by omega⟩) ⟨by omega, by omega, by omega, by omega⟩
theorem own_l1 (M : own_M m0 m1 d0 d1) (S : own_srt m0 m1 lo hi) : Jvm.Free.Fl.NoNaN64 (FP.ddiv (FP.i2d m0) (FP.l2d (hi.toInt64))) := by
  rw [own_i2dl]
  have := rng32 m0
  have := rng32 hi
  have := own_st S
  obtain ⟨h1, h2, h3, h4, h5, h6⟩ := M
  exact own_nd (c_i2l m0) (c_i2l hi) ⟨by omega, by omega, by omega, by omega⟩
theorem own_l2 (M : own_M m0 m1 d0 d1) : Jvm.Free.Fl.NoNaN64 (FP.ddiv (FP.i2d m0) (FP.l2d ((m0.toInt64) + (m1.toInt64)))) := by
  rw [own_i2dl]
  have := rng32 m0
  have := rng32 m1
  obtain ⟨h1, h2, h3, h4, h5, h6⟩ := M
  exact own_nd (c_i2l m0) (own_t _ _) ⟨by omega, by omega, by omega, by omega⟩
theorem own_l3 (M : own_M m0 m1 d0 d1) : Jvm.Free.Fl.NoNaN64 (FP.ddiv (FP.i2d d0) (FP.l2d ((d0.toInt64) + (d1.toInt64)))) := by
  rw [own_i2dl]
  have := rng32 d0
  have := rng32 d1
  obtain ⟨h1, h2, h3, h4, h5, h6⟩ := M
  exact own_nd (c_i2l d0) (own_t _ _) ⟨by omega, by omega, by omega, by omega⟩
theorem own_l41 (M : own_M m0 m1 d0 d1) (S : own_srt m0 m1 lo hi) : Jvm.Free.Fl.NoNaN64 (FP.ddiv (FP.l2d ((1 : Int64) * (m0.toInt64))) (FP.l2d ((1 : Int64) * (hi.toInt64)))) := by
  rw [Int64.one_mul, Int64.one_mul, ← own_i2dl m0]
  exact own_l1 M S
theorem own_l42 (M : own_M m0 m1 d0 d1) (S : own_srt m0 m1 lo hi) : Jvm.Free.Fl.NoNaN64 (FP.ddiv (FP.l2d ((2 : Int64) * (m0.toInt64))) (FP.l2d ((2 : Int64) * (hi.toInt64)))) := by
  rw [Int64.two_mul, Int64.two_mul]
  have r0 := rng32 m0
  have r1 := rng32 hi
  have e := c_i2l m0
  have e1 := c_i2l hi
  have s := own_st S
  obtain ⟨h1, h2, h3, h4, h5, h6⟩ := M
  exact own_nd (own_2 _ ⟨by omega, by omega⟩) (own_2 _ ⟨by omega, by omega⟩) ⟨by omega, by omega, by omega, by omega⟩
theorem own_l51 (M : own_M m0 m1 d0 d1) : Jvm.Free.Fl.NoNaN64 (FP.ddiv (FP.l2d ((1 : Int64) * (m0.toInt64))) (FP.l2d ((1 : Int64) * ((m0.toInt64) + (m1.toInt64))))) := by
  rw [Int64.one_mul, Int64.one_mul, ← own_i2dl m0]
  exact own_l2 M
theorem own_l52 (M : own_M m0 m1 d0 d1) : Jvm.Free.Fl.NoNaN64 (FP.ddiv (FP.l2d ((2 : Int64) * (m0.toInt64))) (FP.l2d ((2 : Int64) * ((m0.toInt64) + (m1.toInt64))))) := by
  rw [Int64.two_mul, Int64.two_mul]
  have r0 := rng32 m0
  have r1 := rng32 m1
  have e := c_i2l m0
  have e2 := own_t m0 m1
  obtain ⟨h1, h2, h3, h4, h5, h6⟩ := M
  exact own_nd (own_2 _ ⟨by omega, by omega⟩) (own_2 _ ⟨by omega, by omega⟩) ⟨by omega, by omega, by omega, by omega⟩
theorem own_rr1 {a b b' : Int64} {A : UInt64} (hA : FP.l2d a = A) (hB : b = b') (h : own_Q a b) : (cmpValue (FP.dcmp (FP.ddiv (FP.dadd (0 : UInt64) (FP.ddiv (FP.l2d a) (FP.l2d b))) (FP.i2d ((0 : Int32) + (1 : Int32)))) (FP.ddiv A (FP.l2d b'))) .l) = (0 : Int32) := by
  subst hA hB
  exact (own_A h).2.2.2.2.2.1
theorem own_rr2 {a b b' : Int64} {A : UInt64} (hA : FP.l2d a = A) (hB : b = b') (h : own_Q a b) : (cmpValue (FP.dcmp (FP.ddiv (FP.dadd (FP.dadd (0 : UInt64) (FP.ddiv (FP.l2d a) (FP.l2d b))) (FP.ddiv (FP.l2d a) (FP.l2d b))) (FP.i2d (((0 : Int32) + (1 : Int32)) + (1 : Int32)))) (FP.ddiv A (FP.l2d b'))) .l) = (0 : Int32) := by
  subst hA hB
  exact (own_A h).2.2.2.2.2.2
theorem own_acc {a a' b b' : Int64} (h1 : a = a') (h2 : b = b') (hn : Jvm.Free.Fl.NoNaN64 (FP.ddiv (FP.l2d a) (FP.l2d b))) : (cmpValue (FP.dcmp (FP.ddiv (FP.l2d a) (FP.l2d b)) (FP.ddiv (FP.l2d a') (FP.l2d b'))) .l) = (0 : Int32) := by
  subst h1 h2
  exact own_same hn
theorem own_P0 {i0_ i1_ c0_ c1_ : Int32} (h0 : own_pos i0_ c0_) (h1 : own_pos i1_ c1_) : Jvm.Free.Fl.NoNaN64 (FP.ddiv (FP.i2d ((0 : Int32) + c0_)) (FP.i2d (1 : Int32))) ∧ Jvm.Free.Fl.NoNaN64 (FP.dadd (0 : UInt64) (FP.ddiv (FP.i2d ((0 : Int32) + c0_)) (FP.i2d (1 : Int32)))) ∧ Jvm.Free.Fl.NoNaN64 (FP.ddiv (FP.dadd (0 : UInt64) (FP.ddiv (FP.i2d ((0 : Int32) + c0_)) (FP.i2d (1 : Int32)))) (FP.i2d ((0 : Int32) + (1 : Int32)))) ∧ Jvm.Free.Fl.NoNaN64 (FP.dadd (FP.dadd (0 : UInt64) (FP.ddiv (FP.i2d ((0 : Int32) + c0_)) (FP.i2d (1 : Int32)))) (FP.ddiv (FP.i2d ((0 : Int32) + c0_)) (FP.i2d (1 : Int32)))) ∧ Jvm.Free.Fl.NoNaN64 (FP.ddiv (FP.dadd (FP.dadd (0 : UInt64) (FP.ddiv (FP.i2d ((0 : Int32) + c0_)) (FP.i2d (1 : Int32)))) (FP.ddiv (FP.i2d ((0 : Int32) + c0_)) (FP.i2d (1 : Int32)))) (FP.i2d (((0 : Int32) + (1 : Int32)) + (1 : Int32)))) := by
  rcases h0 with ⟨-, rfl⟩ | ⟨-, rfl⟩ <;> rcases h1 with ⟨-, rfl⟩ | ⟨-, rfl⟩ <;> refine ⟨?_, ?_, ?_, ?_, ?_⟩ <;> decide +kernel
theorem own_pc1 {i0_ c0_ : Int32} {z : UInt64} (h0 : own_pos i0_ c0_) (h : own_pd i0_ z) : (cmpValue (FP.dcmp (FP.ddiv (FP.dadd (0 : UInt64) (FP.ddiv (FP.i2d ((0 : Int32) + c0_)) (FP.i2d (1 : Int32)))) (FP.i2d ((0 : Int32) + (1 : Int32)))) z) .l) = (0 : Int32) := by
  rcases h0 with ⟨a, rfl⟩ | ⟨a, rfl⟩ <;> rcases h with ⟨b, rfl⟩ | ⟨b, rfl⟩
  · decide +kernel
  · exact absurd a b
  · exact absurd b a
  · decide +kernel
theorem own_pc2 {i0_ c0_ : Int32} {z : UInt64} (h0 : own_pos i0_ c0_) (h : own_pd i0_ z) : (cmpValue (FP.dcmp (FP.ddiv (FP.dadd (FP.dadd (0 : UInt64) (FP.ddiv (FP.i2d ((0 : Int32) + c0_)) (FP.i2d (1 : Int32)))) (FP.ddiv (FP.i2d ((0 : Int32) + c0_)) (FP.i2d (1 : Int32)))) (FP.i2d (((0 : Int32) + (1 : Int32)) + (1 : Int32)))) z) .l) = (0 : Int32) := by
  rcases h0 with ⟨a, rfl⟩ | ⟨a, rfl⟩ <;> rcases h with ⟨b, rfl⟩ | ⟨b, rfl⟩
  · decide +kernel
  · exact absurd a b
  · exact absurd b a
  · decide +kernel
theorem own_P1 {i0_ i1_ c0_ c1_ : Int32} (h0 : own_pos i0_ c0_) (h1 : own_pos i1_ c1_) : Jvm.Free.Fl.NoNaN64 (FP.ddiv (FP.i2d (((0 : Int32) + c0_) + c1_)) (FP.i2d (2 : Int32))) ∧ Jvm.Free.Fl.NoNaN64 (FP.dadd (0 : UInt64) (FP.ddiv (FP.i2d (((0 : Int32) + c0_) + c1_)) (FP.i2d (2 : Int32)))) ∧ Jvm.Free.Fl.NoNaN64 (FP.ddiv (FP.dadd (0 : UInt64) (FP.ddiv (FP.i2d (((0 : Int32) + c0_) + c1_)) (FP.i2d (2 : Int32)))) (FP.i2d ((0 : Int32) + (1 : Int32)))) ∧ Jvm.Free.Fl.NoNaN64 (FP.dadd (FP.dadd (0 : UInt64) (FP.ddiv (FP.i2d (((0 : Int32) + c0_) + c1_)) (FP.i2d (2 : Int32)))) (FP.ddiv (FP.i2d (((0 : Int32) + c0_) + c1_)) (FP.i2d (2 : Int32)))) ∧ Jvm.Free.Fl.NoNaN64 (FP.ddiv (FP.dadd (FP.dadd (0 : UInt64) (FP.ddiv (FP.i2d (((0 : Int32) + c0_) + c1_)) (FP.i2d (2 : Int32)))) (FP.ddiv (FP.i2d (((0 : Int32) + c0_) + c1_)) (FP.i2d (2 : Int32)))) (FP.i2d (((0 : Int32) + (1 : Int32)) + (1 : Int32)))) := by
  rcases h0 with ⟨-, rfl⟩ | ⟨-, rfl⟩ <;> rcases h1 with ⟨-, rfl⟩ | ⟨-, rfl⟩ <;> refine ⟨?_, ?_, ?_, ?_, ?_⟩ <;> decide +kernel
theorem own_pq1 {i0_ i1_ c0_ c1_ : Int32} {w : Int32} {z : UInt64} (h0 : own_pos i0_ c0_) (h1 : own_pos i1_ c1_) (h : own_pe i0_ i1_ w z) : (cmpValue (FP.dcmp (FP.ddiv (FP.dadd (0 : UInt64) (FP.ddiv (FP.i2d (((0 : Int32) + c0_) + c1_)) (FP.i2d (2 : Int32)))) (FP.i2d ((0 : Int32) + (1 : Int32)))) z) .l) = (0 : Int32) := by
  rcases h0 with ⟨a, rfl⟩ | ⟨a, rfl⟩ <;> rcases h1 with ⟨b, rfl⟩ | ⟨b, rfl⟩ <;> rcases h with ⟨d, f, -, rfl⟩ | ⟨d, f, -, rfl⟩ | ⟨d, f, -, rfl⟩ | ⟨d, f, -, rfl⟩ <;> first | exact absurd a d | exact absurd d a | exact absurd b f | exact absurd f b | decide +kernel
theorem own_pq2 {i0_ i1_ c0_ c1_ : Int32} {w : Int32} {z : UInt64} (h0 : own_pos i0_ c0_) (h1 : own_pos i1_ c1_) (h : own_pe i0_ i1_ w z) : (cmpValue (FP.dcmp (FP.ddiv (FP.dadd (FP.dadd (0 : UInt64) (FP.ddiv (FP.i2d (((0 : Int32) + c0_) + c1_)) (FP.i2d (2 : Int32)))) (FP.ddiv (FP.i2d (((0 : Int32) + c0_) + c1_)) (FP.i2d (2 : Int32)))) (FP.i2d (((0 : Int32) + (1 : Int32)) + (1 : Int32)))) z) .l) = (0 : Int32) := by
  rcases h0 with ⟨a, rfl⟩ | ⟨a, rfl⟩ <;> rcases h1 with ⟨b, rfl⟩ | ⟨b, rfl⟩ <;> rcases h with ⟨d, f, -, rfl⟩ | ⟨d, f, -, rfl⟩ | ⟨d, f, -, rfl⟩ | ⟨d, f, -, rfl⟩ <;> first | exact absurd a d | exact absurd d a | exact absurd b f | exact absurd f b | decide +kernel
end OwnG
theorem d1_0 : decode jdk_2529_method_6_code 0 = .ok (.iload_n 1, 1) := by decide +kernel
theorem d1_1 : decode jdk_2529_method_6_code 1 = .ok (.istore 4, 2) := by decide +kernel
theorem d1_3 : decode jdk_2529_method_6_code 3 = .ok (.iinc 4 1, 3) := by decide +kernel
theorem d1_6 : decode jdk_2529_method_6_code 6 = .ok (.iload 4, 2) := by decide +kernel
theorem d1_8 : decode jdk_2529_method_6_code 8 = .ok (.iload_n 2, 1) := by decide +kernel
theorem d1_9 : decode jdk_2529_method_6_code 9 = .ok (.if_icmp .ge 58, 3) := by decide +kernel
theorem d1_12 : decode jdk_2529_method_6_code 12 = .ok (.aload_n 0, 1) := by decide +kernel
theorem d1_13 : decode jdk_2529_method_6_code 13 = .ok (.iload 4, 2) := by decide +kernel
theorem d1_15 : decode jdk_2529_method_6_code 15 = .ok (.dup, 1) := by decide +kernel
theorem d1_16 : decode jdk_2529_method_6_code 16 = .ok (.istore_n 3, 1) := by decide +kernel
theorem d1_17 : decode jdk_2529_method_6_code 17 = .ok (.iaload, 1) := by decide +kernel
theorem d1_18 : decode jdk_2529_method_6_code 18 = .ok (.istore 5, 2) := by decide +kernel
theorem d1_20 : decode jdk_2529_method_6_code 20 = .ok (.iload 5, 2) := by decide +kernel
theorem d1_22 : decode jdk_2529_method_6_code 22 = .ok (.aload_n 0, 1) := by decide +kernel
theorem d1_23 : decode jdk_2529_method_6_code 23 = .ok (.iload_n 3, 1) := by decide +kernel
theorem d1_24 : decode jdk_2529_method_6_code 24 = .ok (.iconst 1, 1) := by decide +kernel
theorem d1_25 : decode jdk_2529_method_6_code 25 = .ok (.isub, 1) := by decide +kernel
theorem d1_26 : decode jdk_2529_method_6_code 26 = .ok (.iaload, 1) := by decide +kernel
theorem d1_27 : decode jdk_2529_method_6_code 27 = .ok (.if_icmp .ge 37, 3) := by decide +kernel
theorem d1_30 : decode jdk_2529_method_6_code 30 = .ok (.iinc 3 (-1), 3) := by decide +kernel
theorem d1_33 : decode jdk_2529_method_6_code 33 = .ok (.iload_n 3, 1) := by decide +kernel
theorem d1_34 : decode jdk_2529_method_6_code 34 = .ok (.iload_n 1, 1) := by decide +kernel
theorem d1_35 : decode jdk_2529_method_6_code 35 = .ok (.if_icmp .lt 22, 3) := by decide +kernel
theorem d1_38 : decode jdk_2529_method_6_code 38 = .ok (.iload 5, 2) := by decide +kernel
theorem d1_40 : decode jdk_2529_method_6_code 40 = .ok (.aload_n 0, 1) := by decide +kernel
theorem d1_41 : decode jdk_2529_method_6_code 41 = .ok (.iload_n 3, 1) := by decide +kernel
theorem d1_42 : decode jdk_2529_method_6_code 42 = .ok (.iaload, 1) := by decide +kernel
theorem d1_43 : decode jdk_2529_method_6_code 43 = .ok (.if_icmp .ge 14, 3) := by decide +kernel
theorem d1_46 : decode jdk_2529_method_6_code 46 = .ok (.aload_n 0, 1) := by decide +kernel
theorem d1_47 : decode jdk_2529_method_6_code 47 = .ok (.iload_n 3, 1) := by decide +kernel
theorem d1_48 : decode jdk_2529_method_6_code 48 = .ok (.iconst 1, 1) := by decide +kernel
theorem d1_49 : decode jdk_2529_method_6_code 49 = .ok (.iadd, 1) := by decide +kernel
theorem d1_50 : decode jdk_2529_method_6_code 50 = .ok (.aload_n 0, 1) := by decide +kernel
theorem d1_51 : decode jdk_2529_method_6_code 51 = .ok (.iload_n 3, 1) := by decide +kernel
theorem d1_52 : decode jdk_2529_method_6_code 52 = .ok (.iaload, 1) := by decide +kernel
theorem d1_53 : decode jdk_2529_method_6_code 53 = .ok (.iastore, 1) := by decide +kernel
theorem d1_54 : decode jdk_2529_method_6_code 54 = .ok (.goto (-24), 3) := by decide +kernel
theorem d1_57 : decode jdk_2529_method_6_code 57 = .ok (.aload_n 0, 1) := by decide +kernel
theorem d1_58 : decode jdk_2529_method_6_code 58 = .ok (.iload_n 3, 1) := by decide +kernel
theorem d1_59 : decode jdk_2529_method_6_code 59 = .ok (.iconst 1, 1) := by decide +kernel
theorem d1_60 : decode jdk_2529_method_6_code 60 = .ok (.iadd, 1) := by decide +kernel
theorem d1_61 : decode jdk_2529_method_6_code 61 = .ok (.iload 5, 2) := by decide +kernel
theorem d1_63 : decode jdk_2529_method_6_code 63 = .ok (.iastore, 1) := by decide +kernel
theorem d1_64 : decode jdk_2529_method_6_code 64 = .ok (.goto (-61), 3) := by decide +kernel
theorem d1_67 : decode jdk_2529_method_6_code 67 = .ok (.return_, 1) := by decide +kernel
theorem pn_0 : plainName "java/util/DualPivotQuicksort" = true := by first | (simp [plainName, overriddenIn]; done) | decide +kernel
theorem efIns (m : MethodId) (a_ : Addr) : entryFrame m #[(.ref a_), (.int (0 : Int32)), (.int (2 : Int32))] 6 = mkF m 0 #[lvR a_, lvI (0 : Int32), lvI (2 : Int32), .unset, .unset, .unset] [] := by first | (simp [entryFrame, mkF, argsToLocals, Value.category]; done) | rfl
def QIns (Z : State) (a_ : Addr) (k_ : ClassId) (x0_ : Int32) (x1_ : Int32) (lo_ : Int32) (hi_ : Int32) (h0 : Heap) (n0 : Nat) (v : Option Value) (h : Heap) (L : List Loc) : Prop := v = none ∧ Fr n0 L ∧ Keep h0 h [a_] ∧ Arv Z h a_ k_ .int (2 : Int32) [(.int lo_), (.int hi_)] (.int (0 : Int32))
set_option maxRecDepth 65536 in
set_option maxHeartbeats 40000000 in
theorem rmIns (l : Launch) (Z : State) (a0 : Array Value) (hw : ∀ d ∈ tables_1, d.before a0 Z = true) (ws : List Jvm.Cond) (a_ : Addr) (k_ : ClassId) (x0_ : Int32) (x1_ : Int32) (lo_ : Int32) (hi_ : Int32) (h0 : Heap) (n0 : Nat) (O0 : Old Z n0 h0) (hS : own_srt x0_ x1_ lo_ hi_) (P1 : Arv Z h0 a_ k_ .int (2 : Int32) [(.int x0_), (.int x1_)] (.int (0 : Int32))) (P2 : n0 ≤ a_) :
    MetFree l (⟨"java/util/DualPivotQuicksort", "insertionSort", "([III)V"⟩ : MethodName) (head1 (Jvm.Cond.code (⟨"java/util/DualPivotQuicksort", "insertionSort", "([III)V"⟩ : MethodName) jdk_2529_method_6_code 6 none :: ws) ({ frames := 0, cells := 0, slots := 0, locals := 0 } : Room)) (fun a U => a = #[(.ref a_), (.int (0 : Int32)), (.int (2 : Int32))] ∧ Z.Warmed39 U.vm ∧ U.heap = h0) (fun _ _ _ _ _ => True) (fun _ U o U' => ∃ v L, o = .returned v ∧ QIns Z a_ k_ x0_ x1_ lo_ hi_ h0 n0 v U'.heap L ∧ FrameEnd U o U' L ({ frames := 0, cells := 0, slots := 0, locals := 0 } : Room).cells ({ frames := 0, cells := 0, slots := 0, locals := 0 } : Room).slots) := by
  refine MetFree.of_bodySF (plainFor_of_name pn_0) hisR ?_
  intro p e s m args below meth c s₁ Bd hml0 hP hK
  obtain ⟨rfl, hZ, hh⟩ := hP
  have hx := Bd.exec
  have hby := Bd.bytes
  have hml : c.maxLocals = 6 := hml0
  have hown : s.vm.findClass "java/util/DualPivotQuicksort" = some m.cls := findClass_of_methodNamed Bd.named
  have hnm := (name_of_methodNamed Bd.named Bd.method).1
  have X0 : Stand p l e ({ frames := 0, cells := 0, slots := 0, locals := 0 } : Room) s m #[(.ref a_), (.int (0 : Int32)), (.int (2 : Int32))] below meth c s₁ [] 0 0 := Stand.of_body Bd
  have e0 : s₁.heap = h0 := by rw [← hh, Bd.state]; rfl
  have N0 := Fr.nil n0
  obtain ⟨G, pre0, hG⟩ : ∃ G : State → Prop, (∀ t, own_S p e below m s₁ 0 #[lvR a_, lvI (0 : Int32), lvI (2 : Int32), .unset, .unset, .unset] [] t → G t) ∧ (∀ t, G t → Steps p.tables e below (s₁.setTop (entryFrame m #[(.ref a_), (.int (0 : Int32)), (.int (2 : Int32))] 6)) t) := ⟨fun t => Steps p.tables e below (s₁.setTop (entryFrame m #[(.ref a_), (.int (0 : Int32)), (.int (2 : Int32))] 6)) t, fun t k => castTop (efIns m a_) k, fun _ k => k⟩
  have K0 : Keep h0 h0 [a_] := Keep.refl _ _
  rcases hS with ⟨hc, hl, hh⟩ | ⟨hc, hl, hh⟩
  · obtain ⟨c1, r1, q1, s1, z1, y1, G1⟩ := id P1
    have hin1 : ¬ ((1 : Int32) < 0 ∨ c1.slots.size ≤ ((1 : Int32)).toNatClampNeg) := inb_of s1 ⟨by decide, by decide⟩
    have hat1 : c1.slots[((1 : Int32)).toNatClampNeg]? = some (.int x1_) := Has.at y1 hin1 rfl
    obtain ⟨c2, r2, q2, s2, z2, y2, G2⟩ := id P1
    have hin2 : ¬ ((0 : Int32) < 0 ∨ c2.slots.size ≤ ((0 : Int32)).toNatClampNeg) := inb_of s2 ⟨by decide, by decide⟩
    have hat2 : c2.slots[((0 : Int32)).toNatClampNeg]? = some (.int x0_) := Has.at y2 hin2 rfl
    obtain ⟨c3, r3, q3, s3, z3, y3, G3⟩ := id P1
    have hin3 : ¬ ((0 : Int32) < 0 ∨ c3.slots.size ≤ ((0 : Int32)).toNatClampNeg) := inb_of s3 ⟨by decide, by decide⟩
    have hat3 : c3.slots[((0 : Int32)).toNatClampNeg]? = some (.int x0_) := Has.at y3 hin3 rfl
    obtain ⟨c4, r4, q4, s4, z4, y4, G4⟩ := id P1
    have hin4 : ¬ ((0 : Int32) < 0 ∨ c4.slots.size ≤ ((0 : Int32)).toNatClampNeg) := inb_of s4 ⟨by decide, by decide⟩
    have hat4 : c4.slots[((0 : Int32)).toNatClampNeg]? = some (.int x0_) := Has.at y4 hin4 rfl
    obtain ⟨c5, r5, q5, s5, z5, y5, G5⟩ := id P1
    have hin5 : ¬ ((1 : Int32) < 0 ∨ c5.slots.size ≤ ((1 : Int32)).toNatClampNeg) := inb_of s5 ⟨by decide, by decide⟩
    obtain ⟨T5, h5, X5, e5, W5, st5⟩ := stI X0 hx hZ e0 r5 (j := (1 : Int32)) hin5 (g := (mkF m 53 #[lvR a_, lvI (0 : Int32), lvI (2 : Int32), lvI (0 : Int32), lvI (1 : Int32), lvI x1_] [(.int x0_), (.int (1 : Int32)), (.ref a_)])) rfl rfl (hb hby d1_53)
    have N6 := Fr.snoc X5 N0 P2
    have f7 : Arv Z h5 a_ k_ .int (2 : Int32) [(.int x0_), (.int x0_)] (.int (0 : Int32)) := Arv.set r5 q5 s5 z5 y5 G5 rfl W5 1 rfl (Nat.le_of_ble_eq_true rfl)
    obtain ⟨c8, r8, q8, s8, z8, y8, G8⟩ := id f7
    have hin8 : ¬ ((0 : Int32) < 0 ∨ c8.slots.size ≤ ((0 : Int32)).toNatClampNeg) := inb_of s8 ⟨by decide, by decide⟩
    obtain ⟨T8, h8, X8, e8, W8, st8⟩ := stI X5 hx hZ e5 r8 (j := (0 : Int32)) hin8 (g := (mkF m 63 #[lvR a_, lvI (0 : Int32), lvI (2 : Int32), lvI (-1 : Int32), lvI (1 : Int32), lvI x1_] [(.int x1_), (.int (0 : Int32)), (.ref a_)])) rfl rfl (hb hby d1_63)
    have N9 := Fr.snoc X8 N6 P2
    have f10 : Arv Z h8 a_ k_ .int (2 : Int32) [(.int x1_), (.int x0_)] (.int (0 : Int32)) := Arv.set r8 q8 s8 z8 y8 G8 rfl W8 0 rfl (Nat.le_of_ble_eq_true rfl)
    have f11 : Arv Z h8 a_ k_ .int (2 : Int32) [(.int lo_), (.int hi_)] (.int (0 : Int32)) := by rw [hl, hh]; exact f10
    have pre12 : ∀ t, own_S p e below m T8 67 #[lvR a_, lvI (0 : Int32), lvI (2 : Int32), lvI (-1 : Int32), lvI (2 : Int32), lvI x1_] [] t → G t := by
      intro t kt
      refine pre0 t ?_
      show own_S p e below m s₁ 0 #[lvR a_, lvI (0 : Int32), lvI (2 : Int32), .unset, .unset, .unset] [] _
      refine XS.iloadN X0.here hx rfl (hb hby d1_0) rfl ?_
      refine XS.istore X0.here hx rfl (hb hby d1_1) rfl (l' := #[lvR a_, lvI (0 : Int32), lvI (2 : Int32), .unset, lvI (0 : Int32), .unset]) rfl ?_
      refine XS.iinc X0.here hx rfl (hb hby d1_3) rfl (l' := #[lvR a_, lvI (0 : Int32), lvI (2 : Int32), .unset, lvI (1 : Int32), .unset]) rfl ?_
      refine XS.iload X0.here hx rfl (hb hby d1_6) rfl ?_
      refine XS.iloadN X0.here hx rfl (hb hby d1_8) rfl ?_
      show own_S p e below m s₁ 9 #[lvR a_, lvI (0 : Int32), lvI (2 : Int32), .unset, lvI (1 : Int32), .unset] [(.int (2 : Int32)), (.int (1 : Int32))] _
      refine XS.icmpNo X0.here hx rfl (hb hby d1_9) rfl (tlt (by decide : (1 : Int32) < (2 : Int32))).2.1 ?_
      refine XS.aloadN X0.here hx rfl (hb hby d1_12) rfl rfl ?_
      refine XS.iload X0.here hx rfl (hb hby d1_13) rfl ?_
      refine XS.dup X0.here hx rfl (hb hby d1_15) rfl rfl ?_
      refine XS.istoreN X0.here hx rfl (hb hby d1_16) rfl (l' := #[lvR a_, lvI (0 : Int32), lvI (2 : Int32), lvI (1 : Int32), lvI (1 : Int32), .unset]) rfl ?_
      show own_S p e below m s₁ 17 #[lvR a_, lvI (0 : Int32), lvI (2 : Int32), lvI (1 : Int32), lvI (1 : Int32), .unset] [(.int (1 : Int32)), (.ref a_)] _
      refine X0.iaload hx (j := (1 : Int32)) (v := (.int x1_)) (by rw [e0]; exact r1.1) (State.isArrayOf_alike hZ.alike r1.2.1) r1.2.2 hin1 hat1 (g := (mkF m 17 #[lvR a_, lvI (0 : Int32), lvI (2 : Int32), lvI (1 : Int32), lvI (1 : Int32), .unset] [(.int (1 : Int32)), (.ref a_)])) rfl rfl (hb hby d1_17) _ ?_
      refine XS.istore X0.here hx rfl (hb hby d1_18) rfl (l' := #[lvR a_, lvI (0 : Int32), lvI (2 : Int32), lvI (1 : Int32), lvI (1 : Int32), lvI x1_]) rfl ?_
      refine XS.iload X0.here hx rfl (hb hby d1_20) rfl ?_
      refine XS.aloadN X0.here hx rfl (hb hby d1_22) rfl rfl ?_
      refine XS.iloadN X0.here hx rfl (hb hby d1_23) rfl ?_
      refine XS.iconst X0.here hx rfl (hb hby d1_24) ?_
      refine XS.isub X0.here hx rfl (hb hby d1_25) rfl ?_
      show own_S p e below m s₁ 26 #[lvR a_, lvI (0 : Int32), lvI (2 : Int32), lvI (1 : Int32), lvI (1 : Int32), lvI x1_] [(.int (0 : Int32)), (.ref a_), (.int x1_)] _
      refine X0.iaload hx (j := (0 : Int32)) (v := (.int x0_)) (by rw [e0]; exact r2.1) (State.isArrayOf_alike hZ.alike r2.2.1) r2.2.2 hin2 hat2 (g := (mkF m 26 #[lvR a_, lvI (0 : Int32), lvI (2 : Int32), lvI (1 : Int32), lvI (1 : Int32), lvI x1_] [(.int (0 : Int32)), (.ref a_), (.int x1_)])) rfl rfl (hb hby d1_26) _ ?_
      show own_S p e below m s₁ 27 #[lvR a_, lvI (0 : Int32), lvI (2 : Int32), lvI (1 : Int32), lvI (1 : Int32), lvI x1_] [(.int x0_), (.int x1_)] _
      refine XS.icmpNo X0.here hx rfl (hb hby d1_27) rfl (tlt hc).2.1 ?_
      refine XS.iinc X0.here hx rfl (hb hby d1_30) rfl (l' := #[lvR a_, lvI (0 : Int32), lvI (2 : Int32), lvI (0 : Int32), lvI (1 : Int32), lvI x1_]) rfl ?_
      refine XS.iloadN X0.here hx rfl (hb hby d1_33) rfl ?_
      refine XS.iloadN X0.here hx rfl (hb hby d1_34) rfl ?_
      show own_S p e below m s₁ 35 #[lvR a_, lvI (0 : Int32), lvI (2 : Int32), lvI (0 : Int32), lvI (1 : Int32), lvI x1_] [(.int (0 : Int32)), (.int (0 : Int32))] _
      refine XS.icmpNo X0.here hx rfl (hb hby d1_35) rfl (flt (by decide : ¬ ((0 : Int32) < (0 : Int32)))).1 ?_
      refine XS.iload X0.here hx rfl (hb hby d1_38) rfl ?_
      refine XS.aloadN X0.here hx rfl (hb hby d1_40) rfl rfl ?_
      refine XS.iloadN X0.here hx rfl (hb hby d1_41) rfl ?_
      show own_S p e below m s₁ 42 #[lvR a_, lvI (0 : Int32), lvI (2 : Int32), lvI (0 : Int32), lvI (1 : Int32), lvI x1_] [(.int (0 : Int32)), (.ref a_), (.int x1_)] _
      refine X0.iaload hx (j := (0 : Int32)) (v := (.int x0_)) (by rw [e0]; exact r3.1) (State.isArrayOf_alike hZ.alike r3.2.1) r3.2.2 hin3 hat3 (g := (mkF m 42 #[lvR a_, lvI (0 : Int32), lvI (2 : Int32), lvI (0 : Int32), lvI (1 : Int32), lvI x1_] [(.int (0 : Int32)), (.ref a_), (.int x1_)])) rfl rfl (hb hby d1_42) _ ?_
      show own_S p e below m s₁ 43 #[lvR a_, lvI (0 : Int32), lvI (2 : Int32), lvI (0 : Int32), lvI (1 : Int32), lvI x1_] [(.int x0_), (.int x1_)] _
      refine XS.icmpNo X0.here hx rfl (hb hby d1_43) rfl (tlt hc).2.1 ?_
      refine XS.aloadN X0.here hx rfl (hb hby d1_46) rfl rfl ?_
      refine XS.iloadN X0.here hx rfl (hb hby d1_47) rfl ?_
      refine XS.iconst X0.here hx rfl (hb hby d1_48) ?_
      refine XS.iadd X0.here hx rfl (hb hby d1_49) rfl ?_
      refine XS.aloadN X0.here hx rfl (hb hby d1_50) rfl rfl ?_
      refine XS.iloadN X0.here hx rfl (hb hby d1_51) rfl ?_
      show own_S p e below m s₁ 52 #[lvR a_, lvI (0 : Int32), lvI (2 : Int32), lvI (0 : Int32), lvI (1 : Int32), lvI x1_] [(.int (0 : Int32)), (.ref a_), (.int (1 : Int32)), (.ref a_)] _
      refine X0.iaload hx (j := (0 : Int32)) (v := (.int x0_)) (by rw [e0]; exact r4.1) (State.isArrayOf_alike hZ.alike r4.2.1) r4.2.2 hin4 hat4 (g := (mkF m 52 #[lvR a_, lvI (0 : Int32), lvI (2 : Int32), lvI (0 : Int32), lvI (1 : Int32), lvI x1_] [(.int (0 : Int32)), (.ref a_), (.int (1 : Int32)), (.ref a_)])) rfl rfl (hb hby d1_52) _ ?_
      show own_S p e below m s₁ 53 #[lvR a_, lvI (0 : Int32), lvI (2 : Int32), lvI (0 : Int32), lvI (1 : Int32), lvI x1_] [(.int x0_), (.int (1 : Int32)), (.ref a_)] _
      refine st5 _ ?_
      refine XS.goto X5.here hx rfl (pc0 := 54) (pc' := 30) rfl (hb hby d1_54) (by decide) (by decide) ?_
      refine XS.iinc X5.here hx rfl (hb hby d1_30) rfl (l' := #[lvR a_, lvI (0 : Int32), lvI (2 : Int32), lvI (-1 : Int32), lvI (1 : Int32), lvI x1_]) rfl ?_
      refine XS.iloadN X5.here hx rfl (hb hby d1_33) rfl ?_
      refine XS.iloadN X5.here hx rfl (hb hby d1_34) rfl ?_
      show own_S p e below m T5 35 #[lvR a_, lvI (0 : Int32), lvI (2 : Int32), lvI (-1 : Int32), lvI (1 : Int32), lvI x1_] [(.int (0 : Int32)), (.int (-1 : Int32))] _
      refine XS.icmpYes X5.here hx rfl (pc0 := 35) (pc' := 57) rfl (hb hby d1_35) rfl (tlt (by decide : (-1 : Int32) < (0 : Int32))).1 (by decide) (by decide) ?_
      refine XS.aloadN X5.here hx rfl (hb hby d1_57) rfl rfl ?_
      refine XS.iloadN X5.here hx rfl (hb hby d1_58) rfl ?_
      refine XS.iconst X5.here hx rfl (hb hby d1_59) ?_
      refine XS.iadd X5.here hx rfl (hb hby d1_60) rfl ?_
      refine XS.iload X5.here hx rfl (hb hby d1_61) rfl ?_
      show own_S p e below m T5 63 #[lvR a_, lvI (0 : Int32), lvI (2 : Int32), lvI (-1 : Int32), lvI (1 : Int32), lvI x1_] [(.int x1_), (.int (0 : Int32)), (.ref a_)] _
      refine st8 _ ?_
      refine XS.goto X8.here hx rfl (pc0 := 64) (pc' := 3) rfl (hb hby d1_64) (by decide) (by decide) ?_
      refine XS.iinc X8.here hx rfl (hb hby d1_3) rfl (l' := #[lvR a_, lvI (0 : Int32), lvI (2 : Int32), lvI (-1 : Int32), lvI (2 : Int32), lvI x1_]) rfl ?_
      refine XS.iload X8.here hx rfl (hb hby d1_6) rfl ?_
      refine XS.iloadN X8.here hx rfl (hb hby d1_8) rfl ?_
      show own_S p e below m T8 9 #[lvR a_, lvI (0 : Int32), lvI (2 : Int32), lvI (-1 : Int32), lvI (2 : Int32), lvI x1_] [(.int (2 : Int32)), (.int (2 : Int32))] _
      refine XS.icmpYes X8.here hx rfl (pc0 := 9) (pc' := 67) rfl (hb hby d1_9) rfl (flt (by decide : ¬ ((2 : Int32) < (2 : Int32)))).2.1 (by decide) (by decide) ?_
      exact kt
    have f14 : Keep h0 h5 [a_] := K0.wr W5 (Or.inl (List.mem_of_getElem? (i := 0) rfl))
    have f15 : Keep h0 h8 [a_] := f14.wr W8 (Or.inl (List.mem_of_getElem? (i := 0) rfl))
    obtain ⟨fs, hr, hrun, hended, hW, hsame⟩ := X8.leave (v := none) (fun _ => rfl)
    refine ⟨_, _, hG _ (pre12 _ (X8.returnOut hx Bd.returns (hb hby d1_67) hr)), hrun, hended, _, _, rfl, ?_, ⟨_, rfl⟩, hW, hsame.mono (by decide) (by decide)⟩
    show QIns Z a_ k_ x0_ x1_ lo_ hi_ h0 n0 _ T8.heap _
    rw [e8]
    exact ⟨rfl, N9, f15, f11⟩
  · obtain ⟨c16, r16, q16, s16, z16, y16, G16⟩ := id P1
    have hin16 : ¬ ((1 : Int32) < 0 ∨ c16.slots.size ≤ ((1 : Int32)).toNatClampNeg) := inb_of s16 ⟨by decide, by decide⟩
    have hat16 : c16.slots[((1 : Int32)).toNatClampNeg]? = some (.int x1_) := Has.at y16 hin16 rfl
    obtain ⟨c17, r17, q17, s17, z17, y17, G17⟩ := id P1
    have hin17 : ¬ ((0 : Int32) < 0 ∨ c17.slots.size ≤ ((0 : Int32)).toNatClampNeg) := inb_of s17 ⟨by decide, by decide⟩
    have hat17 : c17.slots[((0 : Int32)).toNatClampNeg]? = some (.int x0_) := Has.at y17 hin17 rfl
    have f18 : Arv Z h0 a_ k_ .int (2 : Int32) [(.int lo_), (.int hi_)] (.int (0 : Int32)) := by rw [hl, hh]; exact P1
    have pre19 : ∀ t, own_S p e below m s₁ 67 #[lvR a_, lvI (0 : Int32), lvI (2 : Int32), lvI (1 : Int32), lvI (2 : Int32), lvI x1_] [] t → G t := by
      intro t kt
      refine pre0 t ?_
      show own_S p e below m s₁ 0 #[lvR a_, lvI (0 : Int32), lvI (2 : Int32), .unset, .unset, .unset] [] _
      refine XS.iloadN X0.here hx rfl (hb hby d1_0) rfl ?_
      refine XS.istore X0.here hx rfl (hb hby d1_1) rfl (l' := #[lvR a_, lvI (0 : Int32), lvI (2 : Int32), .unset, lvI (0 : Int32), .unset]) rfl ?_
      refine XS.iinc X0.here hx rfl (hb hby d1_3) rfl (l' := #[lvR a_, lvI (0 : Int32), lvI (2 : Int32), .unset, lvI (1 : Int32), .unset]) rfl ?_
      refine XS.iload X0.here hx rfl (hb hby d1_6) rfl ?_
      refine XS.iloadN X0.here hx rfl (hb hby d1_8) rfl ?_
      show own_S p e below m s₁ 9 #[lvR a_, lvI (0 : Int32), lvI (2 : Int32), .unset, lvI (1 : Int32), .unset] [(.int (2 : Int32)), (.int (1 : Int32))] _
      refine XS.icmpNo X0.here hx rfl (hb hby d1_9) rfl (tlt (by decide : (1 : Int32) < (2 : Int32))).2.1 ?_
      refine XS.aloadN X0.here hx rfl (hb hby d1_12) rfl rfl ?_
      refine XS.iload X0.here hx rfl (hb hby d1_13) rfl ?_
      refine XS.dup X0.here hx rfl (hb hby d1_15) rfl rfl ?_
      refine XS.istoreN X0.here hx rfl (hb hby d1_16) rfl (l' := #[lvR a_, lvI (0 : Int32), lvI (2 : Int32), lvI (1 : Int32), lvI (1 : Int32), .unset]) rfl ?_
      show own_S p e below m s₁ 17 #[lvR a_, lvI (0 : Int32), lvI (2 : Int32), lvI (1 : Int32), lvI (1 : Int32), .unset] [(.int (1 : Int32)), (.ref a_)] _
      refine X0.iaload hx (j := (1 : Int32)) (v := (.int x1_)) (by rw [e0]; exact r16.1) (State.isArrayOf_alike hZ.alike r16.2.1) r16.2.2 hin16 hat16 (g := (mkF m 17 #[lvR a_, lvI (0 : Int32), lvI (2 : Int32), lvI (1 : Int32), lvI (1 : Int32), .unset] [(.int (1 : Int32)), (.ref a_)])) rfl rfl (hb hby d1_17) _ ?_
      refine XS.istore X0.here hx rfl (hb hby d1_18) rfl (l' := #[lvR a_, lvI (0 : Int32), lvI (2 : Int32), lvI (1 : Int32), lvI (1 : Int32), lvI x1_]) rfl ?_
      refine XS.iload X0.here hx rfl (hb hby d1_20) rfl ?_
      refine XS.aloadN X0.here hx rfl (hb hby d1_22) rfl rfl ?_
      refine XS.iloadN X0.here hx rfl (hb hby d1_23) rfl ?_
      refine XS.iconst X0.here hx rfl (hb hby d1_24) ?_
      refine XS.isub X0.here hx rfl (hb hby d1_25) rfl ?_
      show own_S p e below m s₁ 26 #[lvR a_, lvI (0 : Int32), lvI (2 : Int32), lvI (1 : Int32), lvI (1 : Int32), lvI x1_] [(.int (0 : Int32)), (.ref a_), (.int x1_)] _
      refine X0.iaload hx (j := (0 : Int32)) (v := (.int x0_)) (by rw [e0]; exact r17.1) (State.isArrayOf_alike hZ.alike r17.2.1) r17.2.2 hin17 hat17 (g := (mkF m 26 #[lvR a_, lvI (0 : Int32), lvI (2 : Int32), lvI (1 : Int32), lvI (1 : Int32), lvI x1_] [(.int (0 : Int32)), (.ref a_), (.int x1_)])) rfl rfl (hb hby d1_26) _ ?_
      show own_S p e below m s₁ 27 #[lvR a_, lvI (0 : Int32), lvI (2 : Int32), lvI (1 : Int32), lvI (1 : Int32), lvI x1_] [(.int x0_), (.int x1_)] _
      refine XS.icmpYes X0.here hx rfl (pc0 := 27) (pc' := 64) rfl (hb hby d1_27) rfl (flt hc).2.1 (by decide) (by decide) ?_
      refine XS.goto X0.here hx rfl (pc0 := 64) (pc' := 3) rfl (hb hby d1_64) (by decide) (by decide) ?_
      refine XS.iinc X0.here hx rfl (hb hby d1_3) rfl (l' := #[lvR a_, lvI (0 : Int32), lvI (2 : Int32), lvI (1 : Int32), lvI (2 : Int32), lvI x1_]) rfl ?_
      refine XS.iload X0.here hx rfl (hb hby d1_6) rfl ?_
      refine XS.iloadN X0.here hx rfl (hb hby d1_8) rfl ?_
      show own_S p e below m s₁ 9 #[lvR a_, lvI (0 : Int32), lvI (2 : Int32), lvI (1 : Int32), lvI (2 : Int32), lvI x1_] [(.int (2 : Int32)), (.int (2 : Int32))] _
      refine XS.icmpYes X0.here hx rfl (pc0 := 9) (pc' := 67) rfl (hb hby d1_9) rfl (flt (by decide : ¬ ((2 : Int32) < (2 : Int32)))).2.1 (by decide) (by decide) ?_
      exact kt
    obtain ⟨fs, hr, hrun, hended, hW, hsame⟩ := X0.leave (v := none) (fun _ => rfl)
    refine ⟨_, _, hG _ (pre19 _ (X0.returnOut hx Bd.returns (hb hby d1_67) hr)), hrun, hended, _, _, rfl, ?_, ⟨_, rfl⟩, hW, hsame.mono (by decide) (by decide)⟩
    show QIns Z a_ k_ x0_ x1_ lo_ hi_ h0 n0 _ s₁.heap _
    rw [e0]
    exact ⟨rfl, N0, K0, f18⟩
theorem d2_0 : decode jdk_2529_method_4_code 0 = .ok (.iload 4, 2) := by decide +kernel
theorem d2_2 : decode jdk_2529_method_4_code 2 = .ok (.iconst 1, 1) := by decide +kernel
theorem d2_3 : decode jdk_2529_method_4_code 3 = .ok (.isub, 1) := by decide +kernel
theorem d2_4 : decode jdk_2529_method_4_code 4 = .ok (.istore 5, 2) := by decide +kernel
theorem d2_6 : decode jdk_2529_method_4_code 6 = .ok (.iload 4, 2) := by decide +kernel
theorem d2_8 : decode jdk_2529_method_4_code 8 = .ok (.iload_n 3, 1) := by decide +kernel
theorem d2_9 : decode jdk_2529_method_4_code 9 = .ok (.isub, 1) := by decide +kernel
theorem d2_10 : decode jdk_2529_method_4_code 10 = .ok (.istore 6, 2) := by decide +kernel
theorem d2_12 : decode jdk_2529_method_4_code 12 = .ok (.iload 6, 2) := by decide +kernel
theorem d2_14 : decode jdk_2529_method_4_code 14 = .ok (.bipush 65, 2) := by decide +kernel
theorem d2_16 : decode jdk_2529_method_4_code 16 = .ok (.iload_n 2, 1) := by decide +kernel
theorem d2_17 : decode jdk_2529_method_4_code 17 = .ok (.iadd, 1) := by decide +kernel
theorem d2_18 : decode jdk_2529_method_4_code 18 = .ok (.if_icmp .ge 28, 3) := by decide +kernel
theorem d2_21 : decode jdk_2529_method_4_code 21 = .ok (.iload_n 2, 1) := by decide +kernel
theorem d2_22 : decode jdk_2529_method_4_code 22 = .ok (.iconst 1, 1) := by decide +kernel
theorem d2_23 : decode jdk_2529_method_4_code 23 = .ok (.iand, 1) := by decide +kernel
theorem d2_24 : decode jdk_2529_method_4_code 24 = .ok (.ifCond .le 22, 3) := by decide +kernel
theorem d2_46 : decode jdk_2529_method_4_code 46 = .ok (.iload 6, 2) := by decide +kernel
theorem d2_48 : decode jdk_2529_method_4_code 48 = .ok (.bipush 44, 2) := by decide +kernel
theorem d2_50 : decode jdk_2529_method_4_code 50 = .ok (.if_icmp .ge 11, 3) := by decide +kernel
theorem d2_53 : decode jdk_2529_method_4_code 53 = .ok (.aload_n 1, 1) := by decide +kernel
theorem d2_54 : decode jdk_2529_method_4_code 54 = .ok (.iload_n 3, 1) := by decide +kernel
theorem d2_55 : decode jdk_2529_method_4_code 55 = .ok (.iload 4, 2) := by decide +kernel
theorem d2_57 : decode jdk_2529_method_4_code 57 = .ok (.invokestatic 34, 3) := by decide +kernel
theorem pd_0 : parseMethodDescriptor "([III)V" = some ⟨[(.array .int), .int, .int], none⟩ := by decide +kernel
theorem d2_60 : decode jdk_2529_method_4_code 60 = .ok (.return_, 1) := by decide +kernel
theorem efSortB (m : MethodId) (a_ : Addr) : entryFrame m #[.null, (.ref a_), (.int (0 : Int32)), (.int (0 : Int32)), (.int (2 : Int32))] 21 = mkF m 0 #[.val .null, lvR a_, lvI (0 : Int32), lvI (0 : Int32), lvI (2 : Int32), .unset, .unset, .unset, .unset, .unset, .unset, .unset, .unset, .unset, .unset, .unset, .unset, .unset, .unset, .unset, .unset] [] := by first | (simp [entryFrame, mkF, argsToLocals, Value.category]; done) | rfl
def QSortB (Z : State) (a_ : Addr) (k_ : ClassId) (x0_ : Int32) (x1_ : Int32) (lo_ : Int32) (hi_ : Int32) (h0 : Heap) (n0 : Nat) (v : Option Value) (h : Heap) (L : List Loc) : Prop := v = none ∧ Fr n0 L ∧ Keep h0 h [a_] ∧ Arv Z h a_ k_ .int (2 : Int32) [(.int lo_), (.int hi_)] (.int (0 : Int32))
abbrev mn0 : MethodName := ⟨"java/util/DualPivotQuicksort", "sort", "(Ljava/util/DualPivotQuicksort$Sorter;[IIII)V"⟩
set_option maxRecDepth 65536 in
set_option maxHeartbeats 40000000 in
theorem rmSortB (l : Launch) (Z : State) (a0 : Array Value) (hw : ∀ d ∈ tables_1, d.before a0 Z = true) (ws : List Jvm.Cond) (a_ : Addr) (k_ : ClassId) (x0_ : Int32) (x1_ : Int32) (lo_ : Int32) (hi_ : Int32) (h0 : Heap) (n0 : Nat) (O0 : Old Z n0 h0) (hS : own_srt x0_ x1_ lo_ hi_) (P1 : Arv Z h0 a_ k_ .int (2 : Int32) [(.int x0_), (.int x1_)] (.int (0 : Int32))) (P2 : n0 ≤ a_) :
    MetFree l mn0 (head1 (Jvm.Cond.code mn0 jdk_2529_method_4_code 21 none :: ws) ({ frames := 1, cells := 0, slots := 0, locals := 17 } : Room)) (fun a U => a = #[.null, (.ref a_), (.int (0 : Int32)), (.int (0 : Int32)), (.int (2 : Int32))] ∧ Z.Warmed39 U.vm ∧ U.heap = h0) (fun _ _ _ _ _ => True) (fun _ U o U' => ∃ v L, o = .returned v ∧ QSortB Z a_ k_ x0_ x1_ lo_ hi_ h0 n0 v U'.heap L ∧ FrameEnd U o U' L ({ frames := 1, cells := 0, slots := 0, locals := 17 } : Room).cells ({ frames := 1, cells := 0, slots := 0, locals := 17 } : Room).slots) := by
  refine MetFree.of_bodySF (plainFor_of_name pn_0) hisR ?_
  intro p e s m args below meth c s₁ Bd hml0 hP hK
  obtain ⟨rfl, hZ, hh⟩ := hP
  have hx := Bd.exec
  have hby := Bd.bytes
  have hml : c.maxLocals = 21 := hml0
  have hown : s.vm.findClass "java/util/DualPivotQuicksort" = some m.cls := findClass_of_methodNamed Bd.named
  have hnm := (name_of_methodNamed Bd.named Bd.method).1
  have X0 : Stand p l e ({ frames := 1, cells := 0, slots := 0, locals := 17 } : Room) s m #[.null, (.ref a_), (.int (0 : Int32)), (.int (0 : Int32)), (.int (2 : Int32))] below meth c s₁ [] 0 0 := Stand.of_body Bd
  have e0 : s₁.heap = h0 := by rw [← hh, Bd.state]; rfl
  have N0 := Fr.nil n0
  obtain ⟨G, pre0, hG⟩ : ∃ G : State → Prop, (∀ t, own_S p e below m s₁ 0 #[.val .null, lvR a_, lvI (0 : Int32), lvI (0 : Int32), lvI (2 : Int32), .unset, .unset, .unset, .unset, .unset, .unset, .unset, .unset, .unset, .unset, .unset, .unset, .unset, .unset, .unset, .unset] [] t → G t) ∧ (∀ t, G t → Steps p.tables e below (s₁.setTop (entryFrame m #[.null, (.ref a_), (.int (0 : Int32)), (.int (0 : Int32)), (.int (2 : Int32))] 21)) t) := ⟨fun t => Steps p.tables e below (s₁.setTop (entryFrame m #[.null, (.ref a_), (.int (0 : Int32)), (.int (0 : Int32)), (.int (2 : Int32))] 21)) t, fun t k => castTop (efSortB m a_) k, fun _ k => k⟩
  have K0 : Keep h0 h0 [a_] := Keep.refl _ _
  obtain ⟨_, _, ⟨T1, L1, k1, n1⟩, -, X1, ⟨Lc1, hQ1, l1, y1, z1⟩, st1⟩ := Jvm.LawKit.callS X0 hx (y := (⟨"java/util/DualPivotQuicksort", "insertionSort", "([III)V"⟩ : MethodName)) hown (mvT hZ (own_w hw 55 rfl)) (mvT hZ (own_w hw 56 rfl)) (mvT hZ (own_w hw 50 rfl)) (mvT hZ (own_w hw 57 rfl)) (by decide) (backOf (W := 0) (rmIns l Z a0 hw [] a_ k_ x0_ x1_ lo_ hi_ h0 n0 O0 hS P1 P2) hZ (own_w hw 57 rfl) (own_w hw 50 rfl) (by decide) (by decide)) (g := (mkF m 57 #[.val .null, lvR a_, lvI (0 : Int32), lvI (0 : Int32), lvI (2 : Int32), lvI (1 : Int32), lvI (2 : Int32), .unset, .unset, .unset, .unset, .unset, .unset, .unset, .unset, .unset, .unset, .unset, .unset, .unset, .unset] [(.int (2 : Int32)), (.int (0 : Int32)), (.ref a_)])) rfl (by rw [hml]; rfl) (argsL := [(.ref a_), (.int (0 : Int32)), (.int (2 : Int32))]) (rest := []) (lenOf pd_0 rfl) rfl (by show 2 * 0 + _ ≤ _; exact Nat.le_of_eq rfl) (hb hby d2_57) (fun _ _ => ⟨rfl, e0, (by decide : 0 + 0 ≤ _), (by decide : 0 + 0 ≤ _)⟩)
  dsimp only [Pt.U, Pt.locs, Pt.cells, Pt.slots] at X1 l1 y1 z1 st1 hQ1
  subst l1 y1 z1
  obtain ⟨h1, e1⟩ : ∃ z, T1.heap = z := ⟨_, rfl⟩
  rw [e1] at hQ1
  obtain ⟨rfl, N1q, K1, g1_0⟩ := hQ1
  have N2 := Fr.app N0 N1q
  have pre3 : ∀ t, own_S p e below m T1 60 #[.val .null, lvR a_, lvI (0 : Int32), lvI (0 : Int32), lvI (2 : Int32), lvI (1 : Int32), lvI (2 : Int32), .unset, .unset, .unset, .unset, .unset, .unset, .unset, .unset, .unset, .unset, .unset, .unset, .unset, .unset] [] t → G t := by
    intro t kt
    refine pre0 t ?_
    show own_S p e below m s₁ 0 #[.val .null, lvR a_, lvI (0 : Int32), lvI (0 : Int32), lvI (2 : Int32), .unset, .unset, .unset, .unset, .unset, .unset, .unset, .unset, .unset, .unset, .unset, .unset, .unset, .unset, .unset, .unset] [] _
    refine XS.iload X0.here hx rfl (hb hby d2_0) rfl ?_
    refine XS.iconst X0.here hx rfl (hb hby d2_2) ?_
    refine XS.isub X0.here hx rfl (hb hby d2_3) rfl ?_
    refine XS.istore X0.here hx rfl (hb hby d2_4) rfl (l' := #[.val .null, lvR a_, lvI (0 : Int32), lvI (0 : Int32), lvI (2 : Int32), lvI (1 : Int32), .unset, .unset, .unset, .unset, .unset, .unset, .unset, .unset, .unset, .unset, .unset, .unset, .unset, .unset, .unset]) rfl ?_
    refine XS.iload X0.here hx rfl (hb hby d2_6) rfl ?_
    refine XS.iloadN X0.here hx rfl (hb hby d2_8) rfl ?_
    refine XS.isub X0.here hx rfl (hb hby d2_9) rfl ?_
    refine XS.istore X0.here hx rfl (hb hby d2_10) rfl (l' := #[.val .null, lvR a_, lvI (0 : Int32), lvI (0 : Int32), lvI (2 : Int32), lvI (1 : Int32), lvI (2 : Int32), .unset, .unset, .unset, .unset, .unset, .unset, .unset, .unset, .unset, .unset, .unset, .unset, .unset, .unset]) rfl ?_
    show own_S p e below m s₁ 12 #[.val .null, lvR a_, lvI (0 : Int32), lvI (0 : Int32), lvI (2 : Int32), lvI (1 : Int32), lvI (2 : Int32), .unset, .unset, .unset, .unset, .unset, .unset, .unset, .unset, .unset, .unset, .unset, .unset, .unset, .unset] [] _
    refine XS.iload X0.here hx rfl (hb hby d2_12) rfl ?_
    refine XS.bipush X0.here hx rfl (hb hby d2_14) ?_
    refine XS.iloadN X0.here hx rfl (hb hby d2_16) rfl ?_
    refine XS.iadd X0.here hx rfl (hb hby d2_17) rfl ?_
    show own_S p e below m s₁ 18 #[.val .null, lvR a_, lvI (0 : Int32), lvI (0 : Int32), lvI (2 : Int32), lvI (1 : Int32), lvI (2 : Int32), .unset, .unset, .unset, .unset, .unset, .unset, .unset, .unset, .unset, .unset, .unset, .unset, .unset, .unset] [(.int (65 : Int32)), (.int (2 : Int32))] _
    refine XS.icmpNo X0.here hx rfl (hb hby d2_18) rfl (tlt (by decide : (2 : Int32) < (65 : Int32))).2.1 ?_
    refine XS.iloadN X0.here hx rfl (hb hby d2_21) rfl ?_
    refine XS.iconst X0.here hx rfl (hb hby d2_22) ?_
    refine XS.iand X0.here hx rfl (hb hby d2_23) rfl ?_
    show own_S p e below m s₁ 24 #[.val .null, lvR a_, lvI (0 : Int32), lvI (0 : Int32), lvI (2 : Int32), lvI (1 : Int32), lvI (2 : Int32), .unset, .unset, .unset, .unset, .unset, .unset, .unset, .unset, .unset, .unset, .unset, .unset, .unset, .unset] [(.int (0 : Int32))] _
    refine XS.ifYes X0.here hx rfl (pc0 := 24) (pc' := 46) rfl (hb hby d2_24) rfl ((if0 _ _).trans (flt (by decide : ¬ ((0 : Int32) < (0 : Int32)))).2.2.2) (by decide) (by decide) ?_
    refine XS.iload X0.here hx rfl (hb hby d2_46) rfl ?_
    refine XS.bipush X0.here hx rfl (hb hby d2_48) ?_
    show own_S p e below m s₁ 50 #[.val .null, lvR a_, lvI (0 : Int32), lvI (0 : Int32), lvI (2 : Int32), lvI (1 : Int32), lvI (2 : Int32), .unset, .unset, .unset, .unset, .unset, .unset, .unset, .unset, .unset, .unset, .unset, .unset, .unset, .unset] [(.int (44 : Int32)), (.int (2 : Int32))] _
    refine XS.icmpNo X0.here hx rfl (hb hby d2_50) rfl (tlt (by decide : (2 : Int32) < (44 : Int32))).2.1 ?_
    refine XS.aloadN X0.here hx rfl (hb hby d2_53) rfl rfl ?_
    refine XS.iloadN X0.here hx rfl (hb hby d2_54) rfl ?_
    refine XS.iload X0.here hx rfl (hb hby d2_55) rfl ?_
    show own_S p e below m s₁ 57 #[.val .null, lvR a_, lvI (0 : Int32), lvI (0 : Int32), lvI (2 : Int32), lvI (1 : Int32), lvI (2 : Int32), .unset, .unset, .unset, .unset, .unset, .unset, .unset, .unset, .unset, .unset, .unset, .unset, .unset, .unset] [(.int (2 : Int32)), (.int (0 : Int32)), (.ref a_)] _
    refine st1 _ ?_
    exact kt
  have f5 : Keep h0 h1 [a_] := K0.trans K1 (allS (Or.inl (List.mem_of_getElem? (i := 0) rfl)) all0)
  obtain ⟨fs, hr, hrun, hended, hW, hsame⟩ := X1.leave (v := none) (fun _ => rfl)
  refine ⟨_, _, hG _ (pre3 _ (X1.returnOut hx Bd.returns (hb hby d2_60) hr)), hrun, hended, _, _, rfl, ?_, ⟨_, rfl⟩, hW, hsame.mono (by decide) (by decide)⟩
  show QSortB Z a_ k_ x0_ x1_ lo_ hi_ h0 n0 _ T1.heap _
  rw [e1]
  exact ⟨rfl, N2, f5, g1_0⟩
theorem d3_0 : decode jdk_2529_method_3_code 0 = .ok (.iload_n 3, 1) := by decide +kernel
theorem d3_1 : decode jdk_2529_method_3_code 1 = .ok (.iload_n 2, 1) := by decide +kernel
theorem d3_2 : decode jdk_2529_method_3_code 2 = .ok (.isub, 1) := by decide +kernel
theorem d3_3 : decode jdk_2529_method_3_code 3 = .ok (.istore 4, 2) := by decide +kernel
theorem d3_5 : decode jdk_2529_method_3_code 5 = .ok (.iload_n 1, 1) := by decide +kernel
theorem d3_6 : decode jdk_2529_method_3_code 6 = .ok (.iconst 1, 1) := by decide +kernel
theorem d3_7 : decode jdk_2529_method_3_code 7 = .ok (.if_icmp .le 61, 3) := by decide +kernel
theorem d3_68 : decode jdk_2529_method_3_code 68 = .ok (.aconst_null, 1) := by decide +kernel
theorem d3_69 : decode jdk_2529_method_3_code 69 = .ok (.aload_n 0, 1) := by decide +kernel
theorem d3_70 : decode jdk_2529_method_3_code 70 = .ok (.iconst 0, 1) := by decide +kernel
theorem d3_71 : decode jdk_2529_method_3_code 71 = .ok (.iload_n 2, 1) := by decide +kernel
theorem d3_72 : decode jdk_2529_method_3_code 72 = .ok (.iload_n 3, 1) := by decide +kernel
theorem d3_73 : decode jdk_2529_method_3_code 73 = .ok (.invokestatic 26, 3) := by decide +kernel
theorem pd_1 : parseMethodDescriptor "(Ljava/util/DualPivotQuicksort$Sorter;[IIII)V" = some ⟨[(.object "java/util/DualPivotQuicksort$Sorter"), (.array .int), .int, .int, .int], none⟩ := by decide +kernel
theorem d3_76 : decode jdk_2529_method_3_code 76 = .ok (.return_, 1) := by decide +kernel
theorem efSortA (m : MethodId) (a_ : Addr) : entryFrame m #[(.ref a_), (.int (0 : Int32)), (.int (0 : Int32)), (.int (2 : Int32))] 7 = mkF m 0 #[lvR a_, lvI (0 : Int32), lvI (0 : Int32), lvI (2 : Int32), .unset, .unset, .unset] [] := by first | (simp [entryFrame, mkF, argsToLocals, Value.category]; done) | rfl
def QSortA (Z : State) (a_ : Addr) (k_ : ClassId) (x0_ : Int32) (x1_ : Int32) (lo_ : Int32) (hi_ : Int32) (h0 : Heap) (n0 : Nat) (v : Option Value) (h : Heap) (L : List Loc) : Prop := v = none ∧ Fr n0 L ∧ Keep h0 h [a_] ∧ Arv Z h a_ k_ .int (2 : Int32) [(.int lo_), (.int hi_)] (.int (0 : Int32))
set_option maxRecDepth 65536 in
set_option maxHeartbeats 40000000 in
theorem rmSortA (l : Launch) (Z : State) (a0 : Array Value) (hw : ∀ d ∈ tables_1, d.before a0 Z = true) (ws : List Jvm.Cond) (a_ : Addr) (k_ : ClassId) (x0_ : Int32) (x1_ : Int32) (lo_ : Int32) (hi_ : Int32) (h0 : Heap) (n0 : Nat) (O0 : Old Z n0 h0) (hS : own_srt x0_ x1_ lo_ hi_) (P1 : Arv Z h0 a_ k_ .int (2 : Int32) [(.int x0_), (.int x1_)] (.int (0 : Int32))) (P2 : n0 ≤ a_) :
    MetFree l (⟨"java/util/DualPivotQuicksort", "sort", "([IIII)V"⟩ : MethodName) (head1 (Jvm.Cond.code (⟨"java/util/DualPivotQuicksort", "sort", "([IIII)V"⟩ : MethodName) jdk_2529_method_3_code 7 none :: ws) ({ frames := 2, cells := 0, slots := 0, locals := 49 } : Room)) (fun a U => a = #[(.ref a_), (.int (0 : Int32)), (.int (0 : Int32)), (.int (2 : Int32))] ∧ Z.Warmed39 U.vm ∧ U.heap = h0) (fun _ _ _ _ _ => True) (fun _ U o U' => ∃ v L, o = .returned v ∧ QSortA Z a_ k_ x0_ x1_ lo_ hi_ h0 n0 v U'.heap L ∧ FrameEnd U o U' L ({ frames := 2, cells := 0, slots := 0, locals := 49 } : Room).cells ({ frames := 2, cells := 0, slots := 0, locals := 49 } : Room).slots) := by
  refine MetFree.of_bodySF (plainFor_of_name pn_0) hisR ?_
  intro p e s m args below meth c s₁ Bd hml0 hP hK
  obtain ⟨rfl, hZ, hh⟩ := hP
  have hx := Bd.exec
  have hby := Bd.bytes
  have hml : c.maxLocals = 7 := hml0
  have hown : s.vm.findClass "java/util/DualPivotQuicksort" = some m.cls := findClass_of_methodNamed Bd.named
  have hnm := (name_of_methodNamed Bd.named Bd.method).1
  have X0 : Stand p l e ({ frames := 2, cells := 0, slots := 0, locals := 49 } : Room) s m #[(.ref a_), (.int (0 : Int32)), (.int (0 : Int32)), (.int (2 : Int32))] below meth c s₁ [] 0 0 := Stand.of_body Bd
  have e0 : s₁.heap = h0 := by rw [← hh, Bd.state]; rfl
  have N0 := Fr.nil n0
  obtain ⟨G, pre0, hG⟩ : ∃ G : State → Prop, (∀ t, own_S p e below m s₁ 0 #[lvR a_, lvI (0 : Int32), lvI (0 : Int32), lvI (2 : Int32), .unset, .unset, .unset] [] t → G t) ∧ (∀ t, G t → Steps p.tables e below (s₁.setTop (entryFrame m #[(.ref a_), (.int (0 : Int32)), (.int (0 : Int32)), (.int (2 : Int32))] 7)) t) := ⟨fun t => Steps p.tables e below (s₁.setTop (entryFrame m #[(.ref a_), (.int (0 : Int32)), (.int (0 : Int32)), (.int (2 : Int32))] 7)) t, fun t k => castTop (efSortA m a_) k, fun _ k => k⟩
  have K0 : Keep h0 h0 [a_] := Keep.refl _ _
  obtain ⟨_, _, ⟨T1, L1, k1, n1⟩, -, X1, ⟨Lc1, hQ1, l1, y1, z1⟩, st1⟩ := Jvm.LawKit.callS X0 hx (y := mn0) hown (mvT hZ (own_w hw 52 rfl)) (mvT hZ (own_w hw 53 rfl)) (mvT hZ (own_w hw 50 rfl)) (mvT hZ (own_w hw 54 rfl)) (by decide) (backOf (W := 0) (rmSortB l Z a0 hw [] a_ k_ x0_ x1_ lo_ hi_ h0 n0 O0 hS P1 P2) hZ (own_w hw 54 rfl) (own_w hw 50 rfl) (by decide) (by decide)) (g := (mkF m 73 #[lvR a_, lvI (0 : Int32), lvI (0 : Int32), lvI (2 : Int32), lvI (2 : Int32), .unset, .unset] [(.int (2 : Int32)), (.int (0 : Int32)), (.int (0 : Int32)), (.ref a_), .null])) rfl (by rw [hml]; rfl) (argsL := [.null, (.ref a_), (.int (0 : Int32)), (.int (0 : Int32)), (.int (2 : Int32))]) (rest := []) (lenOf pd_1 rfl) rfl (by show 2 * 0 + _ ≤ _; exact Nat.le_of_eq rfl) (hb hby d3_73) (fun _ _ => ⟨rfl, e0, (by decide : 0 + 0 ≤ _), (by decide : 0 + 0 ≤ _)⟩)
  dsimp only [Pt.U, Pt.locs, Pt.cells, Pt.slots] at X1 l1 y1 z1 st1 hQ1
  subst l1 y1 z1
  obtain ⟨h1, e1⟩ : ∃ z, T1.heap = z := ⟨_, rfl⟩
  rw [e1] at hQ1
  obtain ⟨rfl, N1q, K1, g1_0⟩ := hQ1
  have N2 := Fr.app N0 N1q
  have pre3 : ∀ t, own_S p e below m T1 76 #[lvR a_, lvI (0 : Int32), lvI (0 : Int32), lvI (2 : Int32), lvI (2 : Int32), .unset, .unset] [] t → G t := by
    intro t kt
    refine pre0 t ?_
    show own_S p e below m s₁ 0 #[lvR a_, lvI (0 : Int32), lvI (0 : Int32), lvI (2 : Int32), .unset, .unset, .unset] [] _
    refine XS.iloadN X0.here hx rfl (hb hby d3_0) rfl ?_
    refine XS.iloadN X0.here hx rfl (hb hby d3_1) rfl ?_
    refine XS.isub X0.here hx rfl (hb hby d3_2) rfl ?_
    refine XS.istore X0.here hx rfl (hb hby d3_3) rfl (l' := #[lvR a_, lvI (0 : Int32), lvI (0 : Int32), lvI (2 : Int32), lvI (2 : Int32), .unset, .unset]) rfl ?_
    refine XS.iloadN X0.here hx rfl (hb hby d3_5) rfl ?_
    refine XS.iconst X0.here hx rfl (hb hby d3_6) ?_
    show own_S p e below m s₁ 7 #[lvR a_, lvI (0 : Int32), lvI (0 : Int32), lvI (2 : Int32), lvI (2 : Int32), .unset, .unset] [(.int (1 : Int32)), (.int (0 : Int32))] _
    refine XS.icmpYes X0.here hx rfl (pc0 := 7) (pc' := 68) rfl (hb hby d3_7) rfl (flt (by decide : ¬ ((1 : Int32) < (0 : Int32)))).2.2.2 (by decide) (by decide) ?_
    refine XS.aconstNull X0.here hx rfl (hb hby d3_68) ?_
    refine XS.aloadN X0.here hx rfl (hb hby d3_69) rfl rfl ?_
    refine XS.iconst X0.here hx rfl (hb hby d3_70) ?_
    refine XS.iloadN X0.here hx rfl (hb hby d3_71) rfl ?_
    refine XS.iloadN X0.here hx rfl (hb hby d3_72) rfl ?_
    show own_S p e below m s₁ 73 #[lvR a_, lvI (0 : Int32), lvI (0 : Int32), lvI (2 : Int32), lvI (2 : Int32), .unset, .unset] [(.int (2 : Int32)), (.int (0 : Int32)), (.int (0 : Int32)), (.ref a_), .null] _
    refine st1 _ ?_
    exact kt
  have f5 : Keep h0 h1 [a_] := K0.trans K1 (allS (Or.inl (List.mem_of_getElem? (i := 0) rfl)) all0)
  obtain ⟨fs, hr, hrun, hended, hW, hsame⟩ := X1.leave (v := none) (fun _ => rfl)
  refine ⟨_, _, hG _ (pre3 _ (X1.returnOut hx Bd.returns (hb hby d3_76) hr)), hrun, hended, _, _, rfl, ?_, ⟨_, rfl⟩, hW, hsame.mono (by decide) (by decide)⟩
  show QSortA Z a_ k_ x0_ x1_ lo_ hi_ h0 n0 _ T1.heap _
  rw [e1]
  exact ⟨rfl, N2, f5, g1_0⟩
theorem d4_0 : decode jdk_65_method_2_code 0 = .ok (.aload_n 0, 1) := by decide +kernel
theorem d4_1 : decode jdk_65_method_2_code 1 = .ok (.iconst 0, 1) := by decide +kernel
theorem d4_2 : decode jdk_65_method_2_code 2 = .ok (.iconst 0, 1) := by decide +kernel
theorem d4_3 : decode jdk_65_method_2_code 3 = .ok (.aload_n 0, 1) := by decide +kernel
theorem d4_4 : decode jdk_65_method_2_code 4 = .ok (.arraylength, 1) := by decide +kernel
theorem d4_5 : decode jdk_65_method_2_code 5 = .ok (.invokestatic 7, 3) := by decide +kernel
theorem pd_2 : parseMethodDescriptor "([IIII)V" = some ⟨[(.array .int), .int, .int, .int], none⟩ := by decide +kernel
theorem d4_8 : decode jdk_65_method_2_code 8 = .ok (.return_, 1) := by decide +kernel
theorem pn_1 : plainName "java/util/Arrays" = true := by first | (simp [plainName, overriddenIn]; done) | decide +kernel
theorem efSort (m : MethodId) (a_ : Addr) : entryFrame m #[(.ref a_)] 1 = mkF m 0 #[lvR a_] [] := by first | (simp [entryFrame, mkF, argsToLocals, Value.category]; done) | rfl
def QSort (Z : State) (a_ : Addr) (k_ : ClassId) (x0_ : Int32) (x1_ : Int32) (lo_ : Int32) (hi_ : Int32) (h0 : Heap) (n0 : Nat) (v : Option Value) (h : Heap) (L : List Loc) : Prop := v = none ∧ Fr n0 L ∧ Keep h0 h [a_] ∧ Arv Z h a_ k_ .int (2 : Int32) [(.int lo_), (.int hi_)] (.int (0 : Int32))
set_option maxRecDepth 65536 in
set_option maxHeartbeats 40000000 in
theorem rmSort (l : Launch) (Z : State) (a0 : Array Value) (hw : ∀ d ∈ tables_1, d.before a0 Z = true) (ws : List Jvm.Cond) (a_ : Addr) (k_ : ClassId) (x0_ : Int32) (x1_ : Int32) (lo_ : Int32) (hi_ : Int32) (h0 : Heap) (n0 : Nat) (O0 : Old Z n0 h0) (hS : own_srt x0_ x1_ lo_ hi_) (P1 : Arv Z h0 a_ k_ .int (2 : Int32) [(.int x0_), (.int x1_)] (.int (0 : Int32))) (P2 : n0 ≤ a_) :
    MetFree l (⟨"java/util/Arrays", "sort", "([I)V"⟩ : MethodName) (head1 (Jvm.Cond.code (⟨"java/util/Arrays", "sort", "([I)V"⟩ : MethodName) jdk_65_method_2_code 1 none :: ws) ({ frames := 3, cells := 0, slots := 0, locals := 67 } : Room)) (fun a U => a = #[(.ref a_)] ∧ Z.Warmed39 U.vm ∧ U.heap = h0) (fun _ _ _ _ _ => True) (fun _ U o U' => ∃ v L, o = .returned v ∧ QSort Z a_ k_ x0_ x1_ lo_ hi_ h0 n0 v U'.heap L ∧ FrameEnd U o U' L ({ frames := 3, cells := 0, slots := 0, locals := 67 } : Room).cells ({ frames := 3, cells := 0, slots := 0, locals := 67 } : Room).slots) := by
  refine MetFree.of_bodySF (plainFor_of_name pn_1) hisR ?_
  intro p e s m args below meth c s₁ Bd hml0 hP hK
  obtain ⟨rfl, hZ, hh⟩ := hP
  have hx := Bd.exec
  have hby := Bd.bytes
  have hml : c.maxLocals = 1 := hml0
  have hown : s.vm.findClass "java/util/Arrays" = some m.cls := findClass_of_methodNamed Bd.named
  have hnm := (name_of_methodNamed Bd.named Bd.method).1
  have X0 : Stand p l e ({ frames := 3, cells := 0, slots := 0, locals := 67 } : Room) s m #[(.ref a_)] below meth c s₁ [] 0 0 := Stand.of_body Bd
  have e0 : s₁.heap = h0 := by rw [← hh, Bd.state]; rfl
  have N0 := Fr.nil n0
  obtain ⟨G, pre0, hG⟩ : ∃ G : State → Prop, (∀ t, own_S p e below m s₁ 0 #[lvR a_] [] t → G t) ∧ (∀ t, G t → Steps p.tables e below (s₁.setTop (entryFrame m #[(.ref a_)] 1)) t) := ⟨fun t => Steps p.tables e below (s₁.setTop (entryFrame m #[(.ref a_)] 1)) t, fun t k => castTop (efSort m a_) k, fun _ k => k⟩
  have K0 : Keep h0 h0 [a_] := Keep.refl _ _
  obtain ⟨c1, r1, q1, s1, z1, y1, G1⟩ := id P1
  obtain ⟨_, _, ⟨T2, L2, k2, n2⟩, -, X2, ⟨Lc2, hQ2, l2, y2, z2⟩, st2⟩ := Jvm.LawKit.callS X0 hx (y := (⟨"java/util/DualPivotQuicksort", "sort", "([IIII)V"⟩ : MethodName)) hown (mvT hZ (own_w hw 48 rfl)) (mvT hZ (own_w hw 49 rfl)) (mvT hZ (own_w hw 50 rfl)) (mvT hZ (own_w hw 51 rfl)) (by decide) (backOf (W := 0) (rmSortA l Z a0 hw [] a_ k_ x0_ x1_ lo_ hi_ h0 n0 O0 hS P1 P2) hZ (own_w hw 51 rfl) (own_w hw 50 rfl) (by decide) (by decide)) (g := (mkF m 5 #[lvR a_] [(.int (2 : Int32)), (.int (0 : Int32)), (.int (0 : Int32)), (.ref a_)])) rfl (by rw [hml]; rfl) (argsL := [(.ref a_), (.int (0 : Int32)), (.int (0 : Int32)), (.int (2 : Int32))]) (rest := []) (lenOf pd_2 rfl) rfl (by show 2 * 0 + _ ≤ _; exact Nat.le_of_eq rfl) (hb hby d4_5) (fun _ _ => ⟨rfl, e0, (by decide : 0 + 0 ≤ _), (by decide : 0 + 0 ≤ _)⟩)
  dsimp only [Pt.U, Pt.locs, Pt.cells, Pt.slots] at X2 l2 y2 z2 st2 hQ2
  subst l2 y2 z2
  obtain ⟨h2, e2⟩ : ∃ z, T2.heap = z := ⟨_, rfl⟩
  rw [e2] at hQ2
  obtain ⟨rfl, N2q, K2, g2_0⟩ := hQ2
  have N3 := Fr.app N0 N2q
  have pre4 : ∀ t, own_S p e below m T2 8 #[lvR a_] [] t → G t := by
    intro t kt
    refine pre0 t ?_
    show own_S p e below m s₁ 0 #[lvR a_] [] _
    refine XS.aloadN X0.here hx rfl (hb hby d4_0) rfl rfl ?_
    refine XS.iconst X0.here hx rfl (hb hby d4_1) ?_
    refine XS.iconst X0.here hx rfl (hb hby d4_2) ?_
    refine XS.aloadN X0.here hx rfl (hb hby d4_3) rfl rfl ?_
    show own_S p e below m s₁ 4 #[lvR a_] [(.ref a_), (.int (0 : Int32)), (.int (0 : Int32)), (.ref a_)] _
    refine X0.arraylength hx (by rw [e0]; exact r1.1) (State.isArrayOf_alike hZ.alike r1.2.1) (g := (mkF m 4 #[lvR a_] [(.ref a_), (.int (0 : Int32)), (.int (0 : Int32)), (.ref a_)])) rfl rfl (hb hby d4_4) _ ?_
    rw [len_of s1 z1]
    show own_S p e below m s₁ 5 #[lvR a_] [(.int (2 : Int32)), (.int (0 : Int32)), (.int (0 : Int32)), (.ref a_)] _
    refine st2 _ ?_
    exact kt
  have f6 : Keep h0 h2 [a_] := K0.trans K2 (allS (Or.inl (List.mem_of_getElem? (i := 0) rfl)) all0)
  obtain ⟨fs, hr, hrun, hended, hW, hsame⟩ := X2.leave (v := none) (fun _ => rfl)
  refine ⟨_, _, hG _ (pre4 _ (X2.returnOut hx Bd.returns (hb hby d4_8) hr)), hrun, hended, _, _, rfl, ?_, ⟨_, rfl⟩, hW, hsame.mono (by decide) (by decide)⟩
  show QSort Z a_ k_ x0_ x1_ lo_ hi_ h0 n0 _ T2.heap _
  rw [e2]
  exact ⟨rfl, N3, f6, g2_0⟩
theorem d5_0 : decode jdk_29_method_65_code 0 = .ok (.iload_n 0, 1) := by decide +kernel
theorem d5_1 : decode jdk_29_method_65_code 1 = .ok (.iload_n 1, 1) := by decide +kernel
theorem d5_2 : decode jdk_29_method_65_code 2 = .ok (.if_icmp .lt 7, 3) := by decide +kernel
theorem d5_5 : decode jdk_29_method_65_code 5 = .ok (.iload_n 0, 1) := by decide +kernel
theorem d5_6 : decode jdk_29_method_65_code 6 = .ok (.goto 4, 3) := by decide +kernel
theorem d5_10 : decode jdk_29_method_65_code 10 = .ok (.ireturn, 1) := by decide +kernel
theorem d5_9 : decode jdk_29_method_65_code 9 = .ok (.iload_n 1, 1) := by decide +kernel
theorem efMax (m : MethodId) (x0_ : Int32) (x1_ : Int32) : entryFrame m #[(.int x0_), (.int x1_)] 2 = mkF m 0 #[lvI x0_, lvI x1_] [] := by first | (simp [entryFrame, mkF, argsToLocals, Value.category]; done) | rfl
def QMax (Z : State) (x0_ : Int32) (x1_ : Int32) (lo_ : Int32) (hi_ : Int32) (h0 : Heap) (n0 : Nat) (v : Option Value) (h : Heap) (L : List Loc) : Prop := v = some (.int hi_) ∧ Fr n0 L ∧ h = h0
set_option maxRecDepth 65536 in
set_option maxHeartbeats 40000000 in
theorem rmMax (l : Launch) (Z : State) (a0 : Array Value) (hw : ∀ d ∈ tables_1, d.before a0 Z = true) (ws : List Jvm.Cond) (x0_ : Int32) (x1_ : Int32) (lo_ : Int32) (hi_ : Int32) (h0 : Heap) (n0 : Nat) (O0 : Old Z n0 h0) (hS : own_srt x0_ x1_ lo_ hi_) :
    MetFree l (⟨"java/lang/Math", "max", "(II)I"⟩ : MethodName) (head1 (Jvm.Cond.code (⟨"java/lang/Math", "max", "(II)I"⟩ : MethodName) jdk_29_method_65_code 2 (some .int) :: ws) ({ frames := 0, cells := 0, slots := 0, locals := 0 } : Room)) (fun a U => a = #[(.int x0_), (.int x1_)] ∧ Z.Warmed39 U.vm ∧ U.heap = h0) (fun _ _ _ _ _ => True) (fun _ U o U' => ∃ v L, o = .returned v ∧ QMax Z x0_ x1_ lo_ hi_ h0 n0 v U'.heap L ∧ FrameEnd U o U' L ({ frames := 0, cells := 0, slots := 0, locals := 0 } : Room).cells ({ frames := 0, cells := 0, slots := 0, locals := 0 } : Room).slots) := by
  refine MetFree.of_bodySF (Jvm.Free.JP.mathPlain rfl (by decide +kernel)) hisR ?_
  intro p e s m args below meth c s₁ Bd hml0 hP hK
  obtain ⟨rfl, hZ, hh⟩ := hP
  have hx := Bd.exec
  have hby := Bd.bytes
  have hml : c.maxLocals = 2 := hml0
  have hown : s.vm.findClass "java/lang/Math" = some m.cls := findClass_of_methodNamed Bd.named
  have hnm := (name_of_methodNamed Bd.named Bd.method).1
  have X0 : Stand p l e ({ frames := 0, cells := 0, slots := 0, locals := 0 } : Room) s m #[(.int x0_), (.int x1_)] below meth c s₁ [] 0 0 := Stand.of_body Bd
  have e0 : s₁.heap = h0 := by rw [← hh, Bd.state]; rfl
  have N0 := Fr.nil n0
  obtain ⟨G, pre0, hG⟩ : ∃ G : State → Prop, (∀ t, own_S p e below m s₁ 0 #[lvI x0_, lvI x1_] [] t → G t) ∧ (∀ t, G t → Steps p.tables e below (s₁.setTop (entryFrame m #[(.int x0_), (.int x1_)] 2)) t) := ⟨fun t => Steps p.tables e below (s₁.setTop (entryFrame m #[(.int x0_), (.int x1_)] 2)) t, fun t k => castTop (efMax m x0_ x1_) k, fun _ k => k⟩
  have K0 : Keep h0 h0 [] := Keep.refl _ _
  rcases hS with ⟨hc, hl, hh⟩ | ⟨hc, hl, hh⟩
  · have hn1 : ¬ (x0_ < x1_) := own_asym hc
    have pre2 : ∀ t, own_S p e below m s₁ 10 #[lvI x0_, lvI x1_] [(.int x0_)] t → G t := by
      intro t kt
      refine pre0 t ?_
      show own_S p e below m s₁ 0 #[lvI x0_, lvI x1_] [] _
      refine XS.iloadN X0.here hx rfl (hb hby d5_0) rfl ?_
      refine XS.iloadN X0.here hx rfl (hb hby d5_1) rfl ?_
      show own_S p e below m s₁ 2 #[lvI x0_, lvI x1_] [(.int x1_), (.int x0_)] _
      refine XS.icmpNo X0.here hx rfl (hb hby d5_2) rfl (flt hn1).1 ?_
      refine XS.iloadN X0.here hx rfl (hb hby d5_5) rfl ?_
      refine XS.goto X0.here hx rfl (pc0 := 6) (pc' := 10) rfl (hb hby d5_6) (by decide) (by decide) ?_
      exact kt
    obtain ⟨fs, hr, hrun, hended, hW, hsame⟩ := X0.leave (v := some (.int x0_)) (fun h => by rw [Bd.returns] at h; cases h)
    refine ⟨_, _, hG _ (pre2 _ (retOut X0 hx Bd.returns rfl (Or.inl ⟨rfl, Or.inl rfl, _, rfl⟩) (hb hby d5_10) hr)), hrun, hended, _, _, rfl, ?_, ⟨_, rfl⟩, hW, hsame.mono (by decide) (by decide)⟩
    show QMax Z x0_ x1_ lo_ hi_ h0 n0 _ s₁.heap _
    rw [e0]
    exact ⟨(by rw [hh]), N0, rfl⟩
  · have pre4 : ∀ t, own_S p e below m s₁ 2 #[lvI x0_, lvI x1_] [(.int x1_), (.int x0_)] t → G t := by
      intro t kt
      refine pre0 t ?_
      show own_S p e below m s₁ 0 #[lvI x0_, lvI x1_] [] _
      refine XS.iloadN X0.here hx rfl (hb hby d5_0) rfl ?_
      refine XS.iloadN X0.here hx rfl (hb hby d5_1) rfl ?_
      exact kt
    by_cases hc5 : x0_ < x1_
    · have pre6 : ∀ t, own_S p e below m s₁ 10 #[lvI x0_, lvI x1_] [(.int x1_)] t → G t := by
        intro t kt
        refine pre4 t ?_
        show own_S p e below m s₁ 2 #[lvI x0_, lvI x1_] [(.int x1_), (.int x0_)] _
        refine XS.icmpYes X0.here hx rfl (pc0 := 2) (pc' := 9) rfl (hb hby d5_2) rfl (tlt hc5).1 (by decide) (by decide) ?_
        refine XS.iloadN X0.here hx rfl (hb hby d5_9) rfl ?_
        exact kt
      obtain ⟨fs, hr, hrun, hended, hW, hsame⟩ := X0.leave (v := some (.int x1_)) (fun h => by rw [Bd.returns] at h; cases h)
      refine ⟨_, _, hG _ (pre6 _ (retOut X0 hx Bd.returns rfl (Or.inl ⟨rfl, Or.inl rfl, _, rfl⟩) (hb hby d5_10) hr)), hrun, hended, _, _, rfl, ?_, ⟨_, rfl⟩, hW, hsame.mono (by decide) (by decide)⟩
      show QMax Z x0_ x1_ lo_ hi_ h0 n0 _ s₁.heap _
      rw [e0]
      exact ⟨(by rw [hh]), N0, rfl⟩
    · have pre8 : ∀ t, own_S p e below m s₁ 10 #[lvI x0_, lvI x1_] [(.int x0_)] t → G t := by
        intro t kt
        refine pre4 t ?_
        show own_S p e below m s₁ 2 #[lvI x0_, lvI x1_] [(.int x1_), (.int x0_)] _
        refine XS.icmpNo X0.here hx rfl (hb hby d5_2) rfl (flt hc5).1 ?_
        refine XS.iloadN X0.here hx rfl (hb hby d5_5) rfl ?_
        refine XS.goto X0.here hx rfl (pc0 := 6) (pc' := 10) rfl (hb hby d5_6) (by decide) (by decide) ?_
        exact kt
      obtain ⟨fs, hr, hrun, hended, hW, hsame⟩ := X0.leave (v := some (.int x0_)) (fun h => by rw [Bd.returns] at h; cases h)
      refine ⟨_, _, hG _ (pre8 _ (retOut X0 hx Bd.returns rfl (Or.inl ⟨rfl, Or.inl rfl, _, rfl⟩) (hb hby d5_10) hr)), hrun, hended, _, _, rfl, ?_, ⟨_, rfl⟩, hW, hsame.mono (by decide) (by decide)⟩
      show QMax Z x0_ x1_ lo_ hi_ h0 n0 _ s₁.heap _
      rw [e0]
      exact ⟨(by rw [hh, own_eqm hc hc5]), N0, rfl⟩
theorem d6_0 : decode prog_41_method_6_code 0 = .ok (.lconst 0, 1) := by decide +kernel
theorem d6_1 : decode prog_41_method_6_code 1 = .ok (.lstore_n 1, 1) := by decide +kernel
theorem d6_2 : decode prog_41_method_6_code 2 = .ok (.aload_n 0, 1) := by decide +kernel
theorem d6_3 : decode prog_41_method_6_code 3 = .ok (.astore_n 3, 1) := by decide +kernel
theorem d6_4 : decode prog_41_method_6_code 4 = .ok (.aload_n 3, 1) := by decide +kernel
theorem d6_5 : decode prog_41_method_6_code 5 = .ok (.arraylength, 1) := by decide +kernel
theorem d6_6 : decode prog_41_method_6_code 6 = .ok (.istore 4, 2) := by decide +kernel
theorem d6_8 : decode prog_41_method_6_code 8 = .ok (.iconst 0, 1) := by decide +kernel
theorem d6_9 : decode prog_41_method_6_code 9 = .ok (.istore 5, 2) := by decide +kernel
theorem d6_11 : decode prog_41_method_6_code 11 = .ok (.iload 5, 2) := by decide +kernel
theorem d6_13 : decode prog_41_method_6_code 13 = .ok (.iload 4, 2) := by decide +kernel
theorem d6_15 : decode prog_41_method_6_code 15 = .ok (.if_icmp .ge 41, 3) := by decide +kernel
theorem d6_18 : decode prog_41_method_6_code 18 = .ok (.aload_n 3, 1) := by decide +kernel
theorem d6_19 : decode prog_41_method_6_code 19 = .ok (.iload 5, 2) := by decide +kernel
theorem d6_21 : decode prog_41_method_6_code 21 = .ok (.iaload, 1) := by decide +kernel
theorem d6_22 : decode prog_41_method_6_code 22 = .ok (.istore 6, 2) := by decide +kernel
theorem d6_24 : decode prog_41_method_6_code 24 = .ok (.iload 6, 2) := by decide +kernel
theorem d6_26 : decode prog_41_method_6_code 26 = .ok (.ifCond .ge 18, 3) := by decide +kernel
theorem d6_44 : decode prog_41_method_6_code 44 = .ok (.lload_n 1, 1) := by decide +kernel
theorem d6_45 : decode prog_41_method_6_code 45 = .ok (.iload 6, 2) := by decide +kernel
theorem d6_47 : decode prog_41_method_6_code 47 = .ok (.i2l, 1) := by decide +kernel
theorem d6_48 : decode prog_41_method_6_code 48 = .ok (.ladd, 1) := by decide +kernel
theorem d6_49 : decode prog_41_method_6_code 49 = .ok (.lstore_n 1, 1) := by decide +kernel
theorem d6_50 : decode prog_41_method_6_code 50 = .ok (.iinc 5 1, 3) := by decide +kernel
theorem d6_53 : decode prog_41_method_6_code 53 = .ok (.goto (-42), 3) := by decide +kernel
theorem d6_56 : decode prog_41_method_6_code 56 = .ok (.lload_n 1, 1) := by decide +kernel
theorem d6_57 : decode prog_41_method_6_code 57 = .ok (.lreturn, 1) := by decide +kernel
theorem pn_2 : plainName "com/example/shortlist/shortlist/SelectionMeasures" = true := by first | (simp [plainName, overriddenIn]; done) | decide +kernel
theorem efSum (m : MethodId) (a_ : Addr) : entryFrame m #[(.ref a_)] 7 = mkF m 0 #[lvR a_, .unset, .unset, .unset, .unset, .unset, .unset] [] := by first | (simp [entryFrame, mkF, argsToLocals, Value.category]; done) | rfl
def QSum (Z : State) (a_ : Addr) (k_ : ClassId) (x0_ : Int32) (x1_ : Int32) (h0 : Heap) (n0 : Nat) (v : Option Value) (h : Heap) (L : List Loc) : Prop := v = some (.long (((0 : Int64) + (x0_.toInt64)) + (x1_.toInt64))) ∧ Fr n0 L ∧ h = h0
set_option maxRecDepth 65536 in
set_option maxHeartbeats 40000000 in
theorem rmSum (l : Launch) (Z : State) (a0 : Array Value) (hw : ∀ d ∈ tables_1, d.before a0 Z = true) (ws : List Jvm.Cond) (a_ : Addr) (k_ : ClassId) (x0_ : Int32) (x1_ : Int32) (h0 : Heap) (n0 : Nat) (O0 : Old Z n0 h0) (hn0_ : ¬ (x0_ < (0 : Int32))) (hn1_ : ¬ (x1_ < (0 : Int32))) (P2 : Arv Z h0 a_ k_ .int (2 : Int32) [(.int x0_), (.int x1_)] (.int (0 : Int32))) :
    MetFree l (⟨"com/example/shortlist/shortlist/SelectionMeasures", "sum", "([I)J"⟩ : MethodName) (head1 (Jvm.Cond.code (⟨"com/example/shortlist/shortlist/SelectionMeasures", "sum", "([I)J"⟩ : MethodName) prog_41_method_6_code 7 (some .long) :: ws) ({ frames := 0, cells := 0, slots := 0, locals := 0 } : Room)) (fun a U => a = #[(.ref a_)] ∧ Z.Warmed39 U.vm ∧ U.heap = h0) (fun _ _ _ _ _ => True) (fun _ U o U' => ∃ v L, o = .returned v ∧ QSum Z a_ k_ x0_ x1_ h0 n0 v U'.heap L ∧ FrameEnd U o U' L ({ frames := 0, cells := 0, slots := 0, locals := 0 } : Room).cells ({ frames := 0, cells := 0, slots := 0, locals := 0 } : Room).slots) := by
  refine MetFree.of_bodySF (plainFor_of_name pn_2) hisR ?_
  intro p e s m args below meth c s₁ Bd hml0 hP hK
  obtain ⟨rfl, hZ, hh⟩ := hP
  have hx := Bd.exec
  have hby := Bd.bytes
  have hml : c.maxLocals = 7 := hml0
  have hown : s.vm.findClass "com/example/shortlist/shortlist/SelectionMeasures" = some m.cls := findClass_of_methodNamed Bd.named
  have hnm := (name_of_methodNamed Bd.named Bd.method).1
  have X0 : Stand p l e ({ frames := 0, cells := 0, slots := 0, locals := 0 } : Room) s m #[(.ref a_)] below meth c s₁ [] 0 0 := Stand.of_body Bd
  have e0 : s₁.heap = h0 := by rw [← hh, Bd.state]; rfl
  have N0 := Fr.nil n0
  obtain ⟨G, pre0, hG⟩ : ∃ G : State → Prop, (∀ t, own_S p e below m s₁ 0 #[lvR a_, .unset, .unset, .unset, .unset, .unset, .unset] [] t → G t) ∧ (∀ t, G t → Steps p.tables e below (s₁.setTop (entryFrame m #[(.ref a_)] 7)) t) := ⟨fun t => Steps p.tables e below (s₁.setTop (entryFrame m #[(.ref a_)] 7)) t, fun t k => castTop (efSum m a_) k, fun _ k => k⟩
  have K0 : Keep h0 h0 [] := Keep.refl _ _
  obtain ⟨c1, r1, q1, s1, z1, y1, G1⟩ := id P2
  obtain ⟨c2, r2, q2, s2, z2, y2, G2⟩ := id P2
  have hin2 : ¬ ((0 : Int32) < 0 ∨ c2.slots.size ≤ ((0 : Int32)).toNatClampNeg) := inb_of s2 ⟨by decide, by decide⟩
  have hat2 : c2.slots[((0 : Int32)).toNatClampNeg]? = some (.int x0_) := Has.at y2 hin2 rfl
  obtain ⟨c3, r3, q3, s3, z3, y3, G3⟩ := id P2
  have hin3 : ¬ ((1 : Int32) < 0 ∨ c3.slots.size ≤ ((1 : Int32)).toNatClampNeg) := inb_of s3 ⟨by decide, by decide⟩
  have hat3 : c3.slots[((1 : Int32)).toNatClampNeg]? = some (.int x1_) := Has.at y3 hin3 rfl
  have pre4 : ∀ t, own_S p e below m s₁ 57 #[lvR a_, lvJ (((0 : Int64) + (x0_.toInt64)) + (x1_.toInt64)), .second, lvR a_, lvI (2 : Int32), lvI (2 : Int32), lvI x1_] [(.long (((0 : Int64) + (x0_.toInt64)) + (x1_.toInt64)))] t → G t := by
    intro t kt
    refine pre0 t ?_
    show own_S p e below m s₁ 0 #[lvR a_, .unset, .unset, .unset, .unset, .unset, .unset] [] _
    refine XS.lconst X0.here hx rfl (hb hby d6_0) ?_
    refine XS.lstoreN X0.here hx rfl (hb hby d6_1) rfl (l' := #[lvR a_, lvJ (0 : Int64), .second, .unset, .unset, .unset, .unset]) rfl ?_
    refine XS.aloadN X0.here hx rfl (hb hby d6_2) rfl rfl ?_
    refine XS.astoreN X0.here hx rfl (hb hby d6_3) rfl rfl (l' := #[lvR a_, lvJ (0 : Int64), .second, lvR a_, .unset, .unset, .unset]) rfl ?_
    refine XS.aloadN X0.here hx rfl (hb hby d6_4) rfl rfl ?_
    show own_S p e below m s₁ 5 #[lvR a_, lvJ (0 : Int64), .second, lvR a_, .unset, .unset, .unset] [(.ref a_)] _
    refine X0.arraylength hx (by rw [e0]; exact r1.1) (State.isArrayOf_alike hZ.alike r1.2.1) (g := (mkF m 5 #[lvR a_, lvJ (0 : Int64), .second, lvR a_, .unset, .unset, .unset] [(.ref a_)])) rfl rfl (hb hby d6_5) _ ?_
    rw [len_of s1 z1]
    refine XS.istore X0.here hx rfl (hb hby d6_6) rfl (l' := #[lvR a_, lvJ (0 : Int64), .second, lvR a_, lvI (2 : Int32), .unset, .unset]) rfl ?_
    refine XS.iconst X0.here hx rfl (hb hby d6_8) ?_
    refine XS.istore X0.here hx rfl (hb hby d6_9) rfl (l' := #[lvR a_, lvJ (0 : Int64), .second, lvR a_, lvI (2 : Int32), lvI (0 : Int32), .unset]) rfl ?_
    refine XS.iload X0.here hx rfl (hb hby d6_11) rfl ?_
    refine XS.iload X0.here hx rfl (hb hby d6_13) rfl ?_
    show own_S p e below m s₁ 15 #[lvR a_, lvJ (0 : Int64), .second, lvR a_, lvI (2 : Int32), lvI (0 : Int32), .unset] [(.int (2 : Int32)), (.int (0 : Int32))] _
    refine XS.icmpNo X0.here hx rfl (hb hby d6_15) rfl (tlt (by decide : (0 : Int32) < (2 : Int32))).2.1 ?_
    refine XS.aloadN X0.here hx rfl (hb hby d6_18) rfl rfl ?_
    refine XS.iload X0.here hx rfl (hb hby d6_19) rfl ?_
    show own_S p e below m s₁ 21 #[lvR a_, lvJ (0 : Int64), .second, lvR a_, lvI (2 : Int32), lvI (0 : Int32), .unset] [(.int (0 : Int32)), (.ref a_)] _
    refine X0.iaload hx (j := (0 : Int32)) (v := (.int x0_)) (by rw [e0]; exact r2.1) (State.isArrayOf_alike hZ.alike r2.2.1) r2.2.2 hin2 hat2 (g := (mkF m 21 #[lvR a_, lvJ (0 : Int64), .second, lvR a_, lvI (2 : Int32), lvI (0 : Int32), .unset] [(.int (0 : Int32)), (.ref a_)])) rfl rfl (hb hby d6_21) _ ?_
    refine XS.istore X0.here hx rfl (hb hby d6_22) rfl (l' := #[lvR a_, lvJ (0 : Int64), .second, lvR a_, lvI (2 : Int32), lvI (0 : Int32), lvI x0_]) rfl ?_
    refine XS.iload X0.here hx rfl (hb hby d6_24) rfl ?_
    show own_S p e below m s₁ 26 #[lvR a_, lvJ (0 : Int64), .second, lvR a_, lvI (2 : Int32), lvI (0 : Int32), lvI x0_] [(.int x0_)] _
    refine XS.ifYes X0.here hx rfl (pc0 := 26) (pc' := 44) rfl (hb hby d6_26) rfl ((if0 _ _).trans (flt hn0_).2.1) (by decide) (by decide) ?_
    refine XS.lloadN X0.here hx rfl (hb hby d6_44) rfl ?_
    refine XS.iload X0.here hx rfl (hb hby d6_45) rfl ?_
    refine XS.i2l X0.here hx rfl (hb hby d6_47) rfl ?_
    refine XS.ladd X0.here hx rfl (hb hby d6_48) rfl ?_
    refine XS.lstoreN X0.here hx rfl (hb hby d6_49) rfl (l' := #[lvR a_, lvJ ((0 : Int64) + (x0_.toInt64)), .second, lvR a_, lvI (2 : Int32), lvI (0 : Int32), lvI x0_]) rfl ?_
    refine XS.iinc X0.here hx rfl (hb hby d6_50) rfl (l' := #[lvR a_, lvJ ((0 : Int64) + (x0_.toInt64)), .second, lvR a_, lvI (2 : Int32), lvI (1 : Int32), lvI x0_]) rfl ?_
    refine XS.goto X0.here hx rfl (pc0 := 53) (pc' := 11) rfl (hb hby d6_53) (by decide) (by decide) ?_
    show own_S p e below m s₁ 11 #[lvR a_, lvJ ((0 : Int64) + (x0_.toInt64)), .second, lvR a_, lvI (2 : Int32), lvI (1 : Int32), lvI x0_] [] _
    refine XS.iload X0.here hx rfl (hb hby d6_11) rfl ?_
    refine XS.iload X0.here hx rfl (hb hby d6_13) rfl ?_
    show own_S p e below m s₁ 15 #[lvR a_, lvJ ((0 : Int64) + (x0_.toInt64)), .second, lvR a_, lvI (2 : Int32), lvI (1 : Int32), lvI x0_] [(.int (2 : Int32)), (.int (1 : Int32))] _
    refine XS.icmpNo X0.here hx rfl (hb hby d6_15) rfl (tlt (by decide : (1 : Int32) < (2 : Int32))).2.1 ?_
    refine XS.aloadN X0.here hx rfl (hb hby d6_18) rfl rfl ?_
    refine XS.iload X0.here hx rfl (hb hby d6_19) rfl ?_
    show own_S p e below m s₁ 21 #[lvR a_, lvJ ((0 : Int64) + (x0_.toInt64)), .second, lvR a_, lvI (2 : Int32), lvI (1 : Int32), lvI x0_] [(.int (1 : Int32)), (.ref a_)] _
    refine X0.iaload hx (j := (1 : Int32)) (v := (.int x1_)) (by rw [e0]; exact r3.1) (State.isArrayOf_alike hZ.alike r3.2.1) r3.2.2 hin3 hat3 (g := (mkF m 21 #[lvR a_, lvJ ((0 : Int64) + (x0_.toInt64)), .second, lvR a_, lvI (2 : Int32), lvI (1 : Int32), lvI x0_] [(.int (1 : Int32)), (.ref a_)])) rfl rfl (hb hby d6_21) _ ?_
    refine XS.istore X0.here hx rfl (hb hby d6_22) rfl (l' := #[lvR a_, lvJ ((0 : Int64) + (x0_.toInt64)), .second, lvR a_, lvI (2 : Int32), lvI (1 : Int32), lvI x1_]) rfl ?_
    refine XS.iload X0.here hx rfl (hb hby d6_24) rfl ?_
    show own_S p e below m s₁ 26 #[lvR a_, lvJ ((0 : Int64) + (x0_.toInt64)), .second, lvR a_, lvI (2 : Int32), lvI (1 : Int32), lvI x1_] [(.int x1_)] _
    refine XS.ifYes X0.here hx rfl (pc0 := 26) (pc' := 44) rfl (hb hby d6_26) rfl ((if0 _ _).trans (flt hn1_).2.1) (by decide) (by decide) ?_
    refine XS.lloadN X0.here hx rfl (hb hby d6_44) rfl ?_
    refine XS.iload X0.here hx rfl (hb hby d6_45) rfl ?_
    refine XS.i2l X0.here hx rfl (hb hby d6_47) rfl ?_
    refine XS.ladd X0.here hx rfl (hb hby d6_48) rfl ?_
    refine XS.lstoreN X0.here hx rfl (hb hby d6_49) rfl (l' := #[lvR a_, lvJ (((0 : Int64) + (x0_.toInt64)) + (x1_.toInt64)), .second, lvR a_, lvI (2 : Int32), lvI (1 : Int32), lvI x1_]) rfl ?_
    refine XS.iinc X0.here hx rfl (hb hby d6_50) rfl (l' := #[lvR a_, lvJ (((0 : Int64) + (x0_.toInt64)) + (x1_.toInt64)), .second, lvR a_, lvI (2 : Int32), lvI (2 : Int32), lvI x1_]) rfl ?_
    refine XS.goto X0.here hx rfl (pc0 := 53) (pc' := 11) rfl (hb hby d6_53) (by decide) (by decide) ?_
    show own_S p e below m s₁ 11 #[lvR a_, lvJ (((0 : Int64) + (x0_.toInt64)) + (x1_.toInt64)), .second, lvR a_, lvI (2 : Int32), lvI (2 : Int32), lvI x1_] [] _
    refine XS.iload X0.here hx rfl (hb hby d6_11) rfl ?_
    refine XS.iload X0.here hx rfl (hb hby d6_13) rfl ?_
    show own_S p e below m s₁ 15 #[lvR a_, lvJ (((0 : Int64) + (x0_.toInt64)) + (x1_.toInt64)), .second, lvR a_, lvI (2 : Int32), lvI (2 : Int32), lvI x1_] [(.int (2 : Int32)), (.int (2 : Int32))] _
    refine XS.icmpYes X0.here hx rfl (pc0 := 15) (pc' := 56) rfl (hb hby d6_15) rfl (flt (by decide : ¬ ((2 : Int32) < (2 : Int32)))).2.1 (by decide) (by decide) ?_
    refine XS.lloadN X0.here hx rfl (hb hby d6_56) rfl ?_
    exact kt
  obtain ⟨fs, hr, hrun, hended, hW, hsame⟩ := X0.leave (v := some (.long (((0 : Int64) + (x0_.toInt64)) + (x1_.toInt64)))) (fun h => by rw [Bd.returns] at h; cases h)
  refine ⟨_, _, hG _ (pre4 _ (retOut X0 hx Bd.returns rfl (Or.inr (Or.inl ⟨rfl, rfl, _, rfl⟩)) (hb hby d6_57) hr)), hrun, hended, _, _, rfl, ?_, ⟨_, rfl⟩, hW, hsame.mono (by decide) (by decide)⟩
  show QSum Z a_ k_ x0_ x1_ h0 n0 _ s₁.heap _
  rw [e0]
  exact ⟨rfl, N0, rfl⟩
theorem d7_0 : decode prog_41_method_2_code 0 = .ok (.aload_n 1, 1) := by decide +kernel
theorem d7_1 : decode prog_41_method_2_code 1 = .ok (.arraylength, 1) := by decide +kernel
theorem d7_2 : decode prog_41_method_2_code 2 = .ok (.aload_n 0, 1) := by decide +kernel
theorem d7_3 : decode prog_41_method_2_code 3 = .ok (.getfield 7, 3) := by decide +kernel
theorem d7_6 : decode prog_41_method_2_code 6 = .ok (.if_icmp .ne 12, 3) := by decide +kernel
theorem d7_9 : decode prog_41_method_2_code 9 = .ok (.aload_n 2, 1) := by decide +kernel
theorem d7_10 : decode prog_41_method_2_code 10 = .ok (.arraylength, 1) := by decide +kernel
theorem d7_11 : decode prog_41_method_2_code 11 = .ok (.aload_n 0, 1) := by decide +kernel
theorem d7_12 : decode prog_41_method_2_code 12 = .ok (.getfield 7, 3) := by decide +kernel
theorem d7_15 : decode prog_41_method_2_code 15 = .ok (.if_icmp .eq 24, 3) := by decide +kernel
theorem d7_39 : decode prog_41_method_2_code 39 = .ok (.aload_n 1, 1) := by decide +kernel
theorem d7_40 : decode prog_41_method_2_code 40 = .ok (.invokestatic 42, 3) := by decide +kernel
theorem pd_3 : parseMethodDescriptor "([I)J" = some ⟨[(.array .int)], some .long⟩ := by decide +kernel
theorem d7_43 : decode prog_41_method_2_code 43 = .ok (.lstore_n 3, 1) := by decide +kernel
theorem d7_44 : decode prog_41_method_2_code 44 = .ok (.aload_n 2, 1) := by decide +kernel
theorem d7_45 : decode prog_41_method_2_code 45 = .ok (.invokestatic 42, 3) := by decide +kernel
theorem d7_48 : decode prog_41_method_2_code 48 = .ok (.lstore 5, 2) := by decide +kernel
theorem d7_50 : decode prog_41_method_2_code 50 = .ok (.lload_n 3, 1) := by decide +kernel
theorem d7_51 : decode prog_41_method_2_code 51 = .ok (.lconst 0, 1) := by decide +kernel
theorem d7_52 : decode prog_41_method_2_code 52 = .ok (.lcmp, 1) := by decide +kernel
theorem d7_53 : decode prog_41_method_2_code 53 = .ok (.ifCond .eq 10, 3) := by decide +kernel
theorem d7_56 : decode prog_41_method_2_code 56 = .ok (.lload 5, 2) := by decide +kernel
theorem d7_58 : decode prog_41_method_2_code 58 = .ok (.lconst 0, 1) := by decide +kernel
theorem d7_59 : decode prog_41_method_2_code 59 = .ok (.lcmp, 1) := by decide +kernel
theorem d7_60 : decode prog_41_method_2_code 60 = .ok (.ifCond .ne 13, 3) := by decide +kernel
theorem d7_73 : decode prog_41_method_2_code 73 = .ok (.aload_n 1, 1) := by decide +kernel
theorem d7_74 : decode prog_41_method_2_code 74 = .ok (.invokevirtual 48, 3) := by decide +kernel
theorem d7_77 : decode prog_41_method_2_code 77 = .ok (.checkcast 49, 3) := by decide +kernel
theorem d7_80 : decode prog_41_method_2_code 80 = .ok (.astore 7, 2) := by decide +kernel
theorem d7_82 : decode prog_41_method_2_code 82 = .ok (.aload 7, 2) := by decide +kernel
theorem d7_84 : decode prog_41_method_2_code 84 = .ok (.invokestatic 54, 3) := by decide +kernel
theorem pd_4 : parseMethodDescriptor "([I)V" = some ⟨[(.array .int)], none⟩ := by decide +kernel
theorem d7_87 : decode prog_41_method_2_code 87 = .ok (.lconst 0, 1) := by decide +kernel
theorem d7_88 : decode prog_41_method_2_code 88 = .ok (.lstore 8, 2) := by decide +kernel
theorem d7_90 : decode prog_41_method_2_code 90 = .ok (.lconst 0, 1) := by decide +kernel
theorem d7_91 : decode prog_41_method_2_code 91 = .ok (.lstore 10, 2) := by decide +kernel
theorem d7_93 : decode prog_41_method_2_code 93 = .ok (.iconst 0, 1) := by decide +kernel
theorem d7_94 : decode prog_41_method_2_code 94 = .ok (.istore 12, 2) := by decide +kernel
theorem d7_96 : decode prog_41_method_2_code 96 = .ok (.lconst 0, 1) := by decide +kernel
theorem d7_97 : decode prog_41_method_2_code 97 = .ok (.lstore 13, 2) := by decide +kernel
theorem d7_99 : decode prog_41_method_2_code 99 = .ok (.iconst 0, 1) := by decide +kernel
theorem d7_100 : decode prog_41_method_2_code 100 = .ok (.istore 15, 2) := by decide +kernel
theorem d7_102 : decode prog_41_method_2_code 102 = .ok (.iload 15, 2) := by decide +kernel
theorem d7_104 : decode prog_41_method_2_code 104 = .ok (.aload_n 0, 1) := by decide +kernel
theorem d7_105 : decode prog_41_method_2_code 105 = .ok (.getfield 7, 3) := by decide +kernel
abbrev cn1 : String := "com/example/shortlist/shortlist/SelectionMeasures"
theorem d7_108 : decode prog_41_method_2_code 108 = .ok (.if_icmp .ge 157, 3) := by decide +kernel
theorem d7_111 : decode prog_41_method_2_code 111 = .ok (.lload 8, 2) := by decide +kernel
theorem d7_113 : decode prog_41_method_2_code 113 = .ok (.aload_n 1, 1) := by decide +kernel
theorem d7_114 : decode prog_41_method_2_code 114 = .ok (.iload 15, 2) := by decide +kernel
theorem d7_116 : decode prog_41_method_2_code 116 = .ok (.iaload, 1) := by decide +kernel
theorem d7_117 : decode prog_41_method_2_code 117 = .ok (.i2l, 1) := by decide +kernel
theorem d7_118 : decode prog_41_method_2_code 118 = .ok (.ladd, 1) := by decide +kernel
theorem d7_119 : decode prog_41_method_2_code 119 = .ok (.lstore 8, 2) := by decide +kernel
theorem d7_121 : decode prog_41_method_2_code 121 = .ok (.lload 10, 2) := by decide +kernel
theorem d7_123 : decode prog_41_method_2_code 123 = .ok (.aload 7, 2) := by decide +kernel
theorem d7_125 : decode prog_41_method_2_code 125 = .ok (.aload_n 0, 1) := by decide +kernel
theorem d7_126 : decode prog_41_method_2_code 126 = .ok (.getfield 7, 3) := by decide +kernel
theorem d7_129 : decode prog_41_method_2_code 129 = .ok (.iconst 1, 1) := by decide +kernel
theorem d7_130 : decode prog_41_method_2_code 130 = .ok (.isub, 1) := by decide +kernel
theorem d7_131 : decode prog_41_method_2_code 131 = .ok (.iload 15, 2) := by decide +kernel
theorem d7_133 : decode prog_41_method_2_code 133 = .ok (.isub, 1) := by decide +kernel
theorem d7_134 : decode prog_41_method_2_code 134 = .ok (.iaload, 1) := by decide +kernel
theorem d7_135 : decode prog_41_method_2_code 135 = .ok (.i2l, 1) := by decide +kernel
theorem d7_136 : decode prog_41_method_2_code 136 = .ok (.ladd, 1) := by decide +kernel
theorem d7_137 : decode prog_41_method_2_code 137 = .ok (.lstore 10, 2) := by decide +kernel
theorem d7_139 : decode prog_41_method_2_code 139 = .ok (.iload 12, 2) := by decide +kernel
theorem d7_141 : decode prog_41_method_2_code 141 = .ok (.aload_n 1, 1) := by decide +kernel
theorem d7_142 : decode prog_41_method_2_code 142 = .ok (.iload 15, 2) := by decide +kernel
theorem d7_144 : decode prog_41_method_2_code 144 = .ok (.iaload, 1) := by decide +kernel
theorem d7_145 : decode prog_41_method_2_code 145 = .ok (.ifCond .le 7, 3) := by decide +kernel
theorem d7_148 : decode prog_41_method_2_code 148 = .ok (.iconst 1, 1) := by decide +kernel
theorem d7_149 : decode prog_41_method_2_code 149 = .ok (.goto 4, 3) := by decide +kernel
theorem d7_152 : decode prog_41_method_2_code 152 = .ok (.iconst 0, 1) := by decide +kernel
theorem d7_153 : decode prog_41_method_2_code 153 = .ok (.iadd, 1) := by decide +kernel
theorem d7_154 : decode prog_41_method_2_code 154 = .ok (.istore 12, 2) := by decide +kernel
theorem d7_156 : decode prog_41_method_2_code 156 = .ok (.lload 13, 2) := by decide +kernel
theorem d7_158 : decode prog_41_method_2_code 158 = .ok (.aload_n 2, 1) := by decide +kernel
theorem d7_159 : decode prog_41_method_2_code 159 = .ok (.iload 15, 2) := by decide +kernel
theorem d7_161 : decode prog_41_method_2_code 161 = .ok (.iaload, 1) := by decide +kernel
theorem d7_162 : decode prog_41_method_2_code 162 = .ok (.i2l, 1) := by decide +kernel
theorem d7_163 : decode prog_41_method_2_code 163 = .ok (.ladd, 1) := by decide +kernel
theorem d7_164 : decode prog_41_method_2_code 164 = .ok (.lstore 13, 2) := by decide +kernel
theorem d7_166 : decode prog_41_method_2_code 166 = .ok (.aload_n 0, 1) := by decide +kernel
theorem d7_167 : decode prog_41_method_2_code 167 = .ok (.getfield 13, 3) := by decide +kernel
theorem d7_170 : decode prog_41_method_2_code 170 = .ok (.iload 15, 2) := by decide +kernel
theorem d7_172 : decode prog_41_method_2_code 172 = .ok (.dup2, 1) := by decide +kernel
theorem d7_173 : decode prog_41_method_2_code 173 = .ok (.daload, 1) := by decide +kernel
theorem d7_174 : decode prog_41_method_2_code 174 = .ok (.lload 8, 2) := by decide +kernel
theorem d7_176 : decode prog_41_method_2_code 176 = .ok (.l2d, 1) := by decide +kernel
theorem d7_177 : decode prog_41_method_2_code 177 = .ok (.lload 10, 2) := by decide +kernel
theorem d7_179 : decode prog_41_method_2_code 179 = .ok (.l2d, 1) := by decide +kernel
theorem d7_180 : decode prog_41_method_2_code 180 = .ok (.ddiv, 1) := by decide +kernel
theorem d7_181 : decode prog_41_method_2_code 181 = .ok (.dadd, 1) := by decide +kernel
theorem d7_182 : decode prog_41_method_2_code 182 = .ok (.dastore, 1) := by decide +kernel
theorem d7_183 : decode prog_41_method_2_code 183 = .ok (.aload_n 0, 1) := by decide +kernel
theorem d7_184 : decode prog_41_method_2_code 184 = .ok (.getfield 17, 3) := by decide +kernel
theorem d7_187 : decode prog_41_method_2_code 187 = .ok (.iload 15, 2) := by decide +kernel
theorem d7_189 : decode prog_41_method_2_code 189 = .ok (.dup2, 1) := by decide +kernel
theorem d7_190 : decode prog_41_method_2_code 190 = .ok (.daload, 1) := by decide +kernel
theorem d7_191 : decode prog_41_method_2_code 191 = .ok (.lload 8, 2) := by decide +kernel
theorem d7_193 : decode prog_41_method_2_code 193 = .ok (.l2d, 1) := by decide +kernel
theorem d7_194 : decode prog_41_method_2_code 194 = .ok (.lload_n 3, 1) := by decide +kernel
theorem d7_195 : decode prog_41_method_2_code 195 = .ok (.l2d, 1) := by decide +kernel
theorem d7_196 : decode prog_41_method_2_code 196 = .ok (.ddiv, 1) := by decide +kernel
theorem d7_197 : decode prog_41_method_2_code 197 = .ok (.dadd, 1) := by decide +kernel
theorem d7_198 : decode prog_41_method_2_code 198 = .ok (.dastore, 1) := by decide +kernel
theorem d7_199 : decode prog_41_method_2_code 199 = .ok (.aload_n 0, 1) := by decide +kernel
theorem d7_200 : decode prog_41_method_2_code 200 = .ok (.getfield 20, 3) := by decide +kernel
theorem d7_203 : decode prog_41_method_2_code 203 = .ok (.iload 15, 2) := by decide +kernel
theorem d7_205 : decode prog_41_method_2_code 205 = .ok (.dup2, 1) := by decide +kernel
theorem d7_206 : decode prog_41_method_2_code 206 = .ok (.daload, 1) := by decide +kernel
theorem d7_207 : decode prog_41_method_2_code 207 = .ok (.iload 12, 2) := by decide +kernel
theorem d7_209 : decode prog_41_method_2_code 209 = .ok (.i2d, 1) := by decide +kernel
theorem d7_210 : decode prog_41_method_2_code 210 = .ok (.iload 15, 2) := by decide +kernel
theorem d7_212 : decode prog_41_method_2_code 212 = .ok (.iconst 1, 1) := by decide +kernel
theorem d7_213 : decode prog_41_method_2_code 213 = .ok (.iadd, 1) := by decide +kernel
theorem d7_214 : decode prog_41_method_2_code 214 = .ok (.i2d, 1) := by decide +kernel
theorem d7_215 : decode prog_41_method_2_code 215 = .ok (.ddiv, 1) := by decide +kernel
theorem d7_216 : decode prog_41_method_2_code 216 = .ok (.dadd, 1) := by decide +kernel
theorem d7_217 : decode prog_41_method_2_code 217 = .ok (.dastore, 1) := by decide +kernel
theorem d7_218 : decode prog_41_method_2_code 218 = .ok (.aload_n 0, 1) := by decide +kernel
theorem d7_219 : decode prog_41_method_2_code 219 = .ok (.getfield 23, 3) := by decide +kernel
theorem d7_222 : decode prog_41_method_2_code 222 = .ok (.iload 15, 2) := by decide +kernel
theorem d7_224 : decode prog_41_method_2_code 224 = .ok (.dup2, 1) := by decide +kernel
theorem d7_225 : decode prog_41_method_2_code 225 = .ok (.daload, 1) := by decide +kernel
theorem d7_226 : decode prog_41_method_2_code 226 = .ok (.lload 13, 2) := by decide +kernel
theorem d7_228 : decode prog_41_method_2_code 228 = .ok (.l2d, 1) := by decide +kernel
theorem d7_229 : decode prog_41_method_2_code 229 = .ok (.lload 5, 2) := by decide +kernel
theorem d7_231 : decode prog_41_method_2_code 231 = .ok (.l2d, 1) := by decide +kernel
theorem d7_232 : decode prog_41_method_2_code 232 = .ok (.ddiv, 1) := by decide +kernel
theorem d7_233 : decode prog_41_method_2_code 233 = .ok (.dadd, 1) := by decide +kernel
theorem d7_234 : decode prog_41_method_2_code 234 = .ok (.dastore, 1) := by decide +kernel
theorem d7_235 : decode prog_41_method_2_code 235 = .ok (.aload_n 0, 1) := by decide +kernel
theorem d7_236 : decode prog_41_method_2_code 236 = .ok (.getfield 26, 3) := by decide +kernel
theorem d7_239 : decode prog_41_method_2_code 239 = .ok (.iload 15, 2) := by decide +kernel
theorem d7_241 : decode prog_41_method_2_code 241 = .ok (.dup2, 1) := by decide +kernel
theorem d7_242 : decode prog_41_method_2_code 242 = .ok (.laload, 1) := by decide +kernel
theorem d7_243 : decode prog_41_method_2_code 243 = .ok (.lload 8, 2) := by decide +kernel
theorem d7_245 : decode prog_41_method_2_code 245 = .ok (.ladd, 1) := by decide +kernel
theorem d7_246 : decode prog_41_method_2_code 246 = .ok (.lastore, 1) := by decide +kernel
theorem d7_247 : decode prog_41_method_2_code 247 = .ok (.aload_n 0, 1) := by decide +kernel
theorem d7_248 : decode prog_41_method_2_code 248 = .ok (.getfield 30, 3) := by decide +kernel
theorem d7_251 : decode prog_41_method_2_code 251 = .ok (.iload 15, 2) := by decide +kernel
theorem d7_253 : decode prog_41_method_2_code 253 = .ok (.dup2, 1) := by decide +kernel
theorem d7_254 : decode prog_41_method_2_code 254 = .ok (.laload, 1) := by decide +kernel
theorem d7_255 : decode prog_41_method_2_code 255 = .ok (.lload 10, 2) := by decide +kernel
theorem d7_257 : decode prog_41_method_2_code 257 = .ok (.ladd, 1) := by decide +kernel
theorem d7_258 : decode prog_41_method_2_code 258 = .ok (.lastore, 1) := by decide +kernel
theorem d7_259 : decode prog_41_method_2_code 259 = .ok (.iinc 15 1, 3) := by decide +kernel
theorem d7_262 : decode prog_41_method_2_code 262 = .ok (.goto (-160), 3) := by decide +kernel
theorem d7_265 : decode prog_41_method_2_code 265 = .ok (.aload_n 0, 1) := by decide +kernel
theorem d7_266 : decode prog_41_method_2_code 266 = .ok (.dup, 1) := by decide +kernel
theorem d7_267 : decode prog_41_method_2_code 267 = .ok (.getfield 60, 3) := by decide +kernel
theorem d7_270 : decode prog_41_method_2_code 270 = .ok (.iconst 1, 1) := by decide +kernel
theorem d7_271 : decode prog_41_method_2_code 271 = .ok (.iadd, 1) := by decide +kernel
theorem d7_272 : decode prog_41_method_2_code 272 = .ok (.putfield 60, 3) := by decide +kernel
theorem d7_275 : decode prog_41_method_2_code 275 = .ok (.aload_n 0, 1) := by decide +kernel
theorem d7_276 : decode prog_41_method_2_code 276 = .ok (.dup, 1) := by decide +kernel
theorem d7_277 : decode prog_41_method_2_code 277 = .ok (.getfield 63, 3) := by decide +kernel
theorem d7_280 : decode prog_41_method_2_code 280 = .ok (.lload_n 3, 1) := by decide +kernel
theorem d7_281 : decode prog_41_method_2_code 281 = .ok (.ladd, 1) := by decide +kernel
theorem d7_282 : decode prog_41_method_2_code 282 = .ok (.putfield 63, 3) := by decide +kernel
theorem d7_285 : decode prog_41_method_2_code 285 = .ok (.return_, 1) := by decide +kernel
theorem efAdd (m : MethodId) (o_ : Addr) (am : Addr) (ad : Addr) : entryFrame m #[(.ref o_), (.ref am), (.ref ad)] 16 = mkF m 0 #[lvR o_, lvR am, lvR ad, .unset, .unset, .unset, .unset, .unset, .unset, .unset, .unset, .unset, .unset, .unset, .unset, .unset] [] := by first | (simp [entryFrame, mkF, argsToLocals, Value.category]; done) | rfl
def QAdd (Z : State) (o_ : Addr) (qu : Int32) (rel : Int64) (aR : Addr) (kaR : ClassId) (rs0 : UInt64) (rs1 : UInt64) (aH : Addr) (kaH : ClassId) (rh0 : UInt64) (rh1 : UInt64) (aP : Addr) (kaP : ClassId) (ps0 : UInt64) (ps1 : UInt64) (aC : Addr) (kaC : ClassId) (cs0 : UInt64) (cs1 : UInt64) (aF : Addr) (kaF : ClassId) (fo0 : Int64) (fo1 : Int64) (aB : Addr) (kaB : ClassId) (be0 : Int64) (be1 : Int64) (am : Addr) (kam : ClassId) (ad : Addr) (kad : ClassId) (x0_ : Int32) (x1_ : Int32) (y0_ : Int32) (y1_ : Int32) (lo_ : Int32) (hi_ : Int32) (c0_ : Int32) (c1_ : Int32) (qr0 : UInt64) (qr1 : UInt64) (qh0 : UInt64) (qh1 : UInt64) (qp0 : UInt64) (qp1 : UInt64) (qc0 : UInt64) (qc1 : UInt64) (h0 : Heap) (n0 : Nat) (v : Option Value) (h : Heap) (L : List Loc) : Prop := v = none ∧ Fr n0 L ∧ Keep h0 h [aR, aH, aP, aC, aF, aB, o_] ∧ Exa Z h o_ cn1 ∧ Fld Z h o_ cn1 "collections" "I" (.int (2 : Int32)) ∧ Fld Z h o_ cn1 "queries" "I" (.int (qu + (1 : Int32))) ∧ Fld Z h o_ cn1 "relevant" "J" (.long (rel + (((0 : Int64) + (x0_.toInt64)) + (x1_.toInt64)))) ∧ Fld Z h o_ cn1 "rSums" "[D" (.ref aR) ∧ Arv Z h aR kaR .double (2 : Int32) [(.double (FP.dadd rs0 qr0)), (.double (FP.dadd rs1 qr1))] (.double (0 : UInt64)) ∧ Fld Z h o_ cn1 "rHatSums" "[D" (.ref aH) ∧ Arv Z h aH kaH .double (2 : Int32) [(.double (FP.dadd rh0 qh0)), (.double (FP.dadd rh1 qh1))] (.double (0 : UInt64)) ∧ Fld Z h o_ cn1 "pSums" "[D" (.ref aP) ∧ Arv Z h aP kaP .double (2 : Int32) [(.double (FP.dadd ps0 qp0)), (.double (FP.dadd ps1 qp1))] (.double (0 : UInt64)) ∧ Fld Z h o_ cn1 "cpSums" "[D" (.ref aC) ∧ Arv Z h aC kaC .double (2 : Int32) [(.double (FP.dadd cs0 qc0)), (.double (FP.dadd cs1 qc1))] (.double (0 : UInt64)) ∧ Fld Z h o_ cn1 "found" "[J" (.ref aF) ∧ Arv Z h aF kaF .long (2 : Int32) [(.long (fo0 + ((0 : Int64) + (x0_.toInt64)))), (.long (fo1 + (((0 : Int64) + (x0_.toInt64)) + (x1_.toInt64))))] (.long (0 : Int64)) ∧ Fld Z h o_ cn1 "best" "[J" (.ref aB) ∧ Arv Z h aB kaB .long (2 : Int32) [(.long (be0 + ((0 : Int64) + (hi_.toInt64)))), (.long (be1 + (((0 : Int64) + (hi_.toInt64)) + (lo_.toInt64))))] (.long (0 : Int64))
set_option maxRecDepth 65536 in
set_option maxHeartbeats 40000000 in
theorem rmAdd (l : Launch) (Z : State) (a0 : Array Value) (hw : ∀ d ∈ tables_1, d.before a0 Z = true) (ws : List Jvm.Cond) (o_ : Addr) (qu : Int32) (rel : Int64) (aR : Addr) (kaR : ClassId) (rs0 : UInt64) (rs1 : UInt64) (aH : Addr) (kaH : ClassId) (rh0 : UInt64) (rh1 : UInt64) (aP : Addr) (kaP : ClassId) (ps0 : UInt64) (ps1 : UInt64) (aC : Addr) (kaC : ClassId) (cs0 : UInt64) (cs1 : UInt64) (aF : Addr) (kaF : ClassId) (fo0 : Int64) (fo1 : Int64) (aB : Addr) (kaB : ClassId) (be0 : Int64) (be1 : Int64) (am : Addr) (kam : ClassId) (ad : Addr) (kad : ClassId) (x0_ : Int32) (x1_ : Int32) (y0_ : Int32) (y1_ : Int32) (lo_ : Int32) (hi_ : Int32) (c0_ : Int32) (c1_ : Int32) (qr0 : UInt64) (qr1 : UInt64) (qh0 : UInt64) (qh1 : UInt64) (qp0 : UInt64) (qp1 : UInt64) (qc0 : UInt64) (qc1 : UInt64) (h0 : Heap) (n0 : Nat) (O0 : Old Z n0 h0) (hx0_ : ¬ (x0_ < (0 : Int32))) (hx1_ : ¬ (x1_ < (0 : Int32))) (hx2_ : ¬ (y0_ < (0 : Int32))) (hx3_ : ¬ (y1_ < (0 : Int32))) (hz0 : ¬ ((((0 : Int64) + (x0_.toInt64)) + (x1_.toInt64)) = (0 : Int64))) (hz1 : ¬ ((((0 : Int64) + (y0_.toInt64)) + (y1_.toInt64)) = (0 : Int64))) (hS : own_srt x0_ x1_ lo_ hi_) (hp0 : own_pos x0_ c0_) (hp1 : own_pos x1_ c1_) (eqr0 : (FP.ddiv (FP.l2d ((0 : Int64) + (x0_.toInt64))) (FP.l2d ((0 : Int64) + (hi_.toInt64)))) = qr0) (eqr1 : (FP.ddiv (FP.l2d (((0 : Int64) + (x0_.toInt64)) + (x1_.toInt64))) (FP.l2d (((0 : Int64) + (hi_.toInt64)) + (lo_.toInt64)))) = qr1) (eqh0 : (FP.ddiv (FP.l2d ((0 : Int64) + (x0_.toInt64))) (FP.l2d (((0 : Int64) + (x0_.toInt64)) + (x1_.toInt64)))) = qh0) (eqh1 : (FP.ddiv (FP.l2d (((0 : Int64) + (x0_.toInt64)) + (x1_.toInt64))) (FP.l2d (((0 : Int64) + (x0_.toInt64)) + (x1_.toInt64)))) = qh1) (eqp0 : (FP.ddiv (FP.i2d ((0 : Int32) + c0_)) (FP.i2d (1 : Int32))) = qp0) (eqp1 : (FP.ddiv (FP.i2d (((0 : Int32) + c0_) + c1_)) (FP.i2d (2 : Int32))) = qp1) (eqc0 : (FP.ddiv (FP.l2d ((0 : Int64) + (y0_.toInt64))) (FP.l2d (((0 : Int64) + (y0_.toInt64)) + (y1_.toInt64)))) = qc0) (eqc1 : (FP.ddiv (FP.l2d (((0 : Int64) + (y0_.toInt64)) + (y1_.toInt64))) (FP.l2d (((0 : Int64) + (y0_.toInt64)) + (y1_.toInt64)))) = qc1) (nqr0 : Jvm.Free.Fl.NoNaN64 (FP.ddiv (FP.l2d ((0 : Int64) + (x0_.toInt64))) (FP.l2d ((0 : Int64) + (hi_.toInt64))))) (nqr1 : Jvm.Free.Fl.NoNaN64 (FP.ddiv (FP.l2d (((0 : Int64) + (x0_.toInt64)) + (x1_.toInt64))) (FP.l2d (((0 : Int64) + (hi_.toInt64)) + (lo_.toInt64))))) (nqh0 : Jvm.Free.Fl.NoNaN64 (FP.ddiv (FP.l2d ((0 : Int64) + (x0_.toInt64))) (FP.l2d (((0 : Int64) + (x0_.toInt64)) + (x1_.toInt64))))) (nqh1 : Jvm.Free.Fl.NoNaN64 (FP.ddiv (FP.l2d (((0 : Int64) + (x0_.toInt64)) + (x1_.toInt64))) (FP.l2d (((0 : Int64) + (x0_.toInt64)) + (x1_.toInt64))))) (nqp0 : Jvm.Free.Fl.NoNaN64 (FP.ddiv (FP.i2d ((0 : Int32) + c0_)) (FP.i2d (1 : Int32)))) (nqp1 : Jvm.Free.Fl.NoNaN64 (FP.ddiv (FP.i2d (((0 : Int32) + c0_) + c1_)) (FP.i2d (2 : Int32)))) (nqc0 : Jvm.Free.Fl.NoNaN64 (FP.ddiv (FP.l2d ((0 : Int64) + (y0_.toInt64))) (FP.l2d (((0 : Int64) + (y0_.toInt64)) + (y1_.toInt64))))) (nqc1 : Jvm.Free.Fl.NoNaN64 (FP.ddiv (FP.l2d (((0 : Int64) + (y0_.toInt64)) + (y1_.toInt64))) (FP.l2d (((0 : Int64) + (y0_.toInt64)) + (y1_.toInt64))))) (mqr0 : Jvm.Free.Fl.NoNaN64 (FP.dadd rs0 qr0)) (mqr1 : Jvm.Free.Fl.NoNaN64 (FP.dadd rs1 qr1)) (mqh0 : Jvm.Free.Fl.NoNaN64 (FP.dadd rh0 qh0)) (mqh1 : Jvm.Free.Fl.NoNaN64 (FP.dadd rh1 qh1)) (mqp0 : Jvm.Free.Fl.NoNaN64 (FP.dadd ps0 qp0)) (mqp1 : Jvm.Free.Fl.NoNaN64 (FP.dadd ps1 qp1)) (mqc0 : Jvm.Free.Fl.NoNaN64 (FP.dadd cs0 qc0)) (mqc1 : Jvm.Free.Fl.NoNaN64 (FP.dadd cs1 qc1)) (P33 : Exa Z h0 o_ cn1) (P34 : Fld Z h0 o_ cn1 "collections" "I" (.int (2 : Int32))) (P35 : Fld Z h0 o_ cn1 "queries" "I" (.int qu)) (P36 : Fld Z h0 o_ cn1 "relevant" "J" (.long rel)) (P37 : Fld Z h0 o_ cn1 "rSums" "[D" (.ref aR)) (P38 : Arv Z h0 aR kaR .double (2 : Int32) [(.double rs0), (.double rs1)] (.double (0 : UInt64))) (P39 : Fld Z h0 o_ cn1 "rHatSums" "[D" (.ref aH)) (P40 : Arv Z h0 aH kaH .double (2 : Int32) [(.double rh0), (.double rh1)] (.double (0 : UInt64))) (P41 : Fld Z h0 o_ cn1 "pSums" "[D" (.ref aP)) (P42 : Arv Z h0 aP kaP .double (2 : Int32) [(.double ps0), (.double ps1)] (.double (0 : UInt64))) (P43 : Fld Z h0 o_ cn1 "cpSums" "[D" (.ref aC)) (P44 : Arv Z h0 aC kaC .double (2 : Int32) [(.double cs0), (.double cs1)] (.double (0 : UInt64))) (P45 : Fld Z h0 o_ cn1 "found" "[J" (.ref aF)) (P46 : Arv Z h0 aF kaF .long (2 : Int32) [(.long fo0), (.long fo1)] (.long (0 : Int64))) (P47 : Fld Z h0 o_ cn1 "best" "[J" (.ref aB)) (P48 : Arv Z h0 aB kaB .long (2 : Int32) [(.long be0), (.long be1)] (.long (0 : Int64))) (P49 : Exa Z h0 am "[I") (P50 : Arv Z h0 am kam .int (2 : Int32) [(.int x0_), (.int x1_)] (.int (0 : Int32))) (P51 : Arv Z h0 ad kad .int (2 : Int32) [(.int y0_), (.int y1_)] (.int (0 : Int32))) (P52 : n0 ≤ aR) (P53 : o_ ≠ aR) (P54 : aH ≠ aR) (P55 : n0 ≤ aH) (P56 : o_ ≠ aH) (P57 : aP ≠ aR) (P58 : aP ≠ aH) (P59 : n0 ≤ aP) (P60 : o_ ≠ aP) (P61 : aC ≠ aR) (P62 : aC ≠ aH) (P63 : aC ≠ aP) (P64 : n0 ≤ aC) (P65 : o_ ≠ aC) (P66 : aF ≠ aR) (P67 : aF ≠ aH) (P68 : aF ≠ aP) (P69 : aF ≠ aC) (P70 : n0 ≤ aF) (P71 : o_ ≠ aF) (P72 : aB ≠ aR) (P73 : aB ≠ aH) (P74 : aB ≠ aP) (P75 : aB ≠ aC) (P76 : aB ≠ aF) (P77 : n0 ≤ aB) (P78 : o_ ≠ aB) (P79 : am ≠ aR) (P80 : am ≠ aH) (P81 : am ≠ aP) (P82 : am ≠ aC) (P83 : am ≠ aF) (P84 : am ≠ aB) (P85 : ad ≠ aR) (P86 : ad ≠ aH) (P87 : ad ≠ aP) (P88 : ad ≠ aC) (P89 : ad ≠ aF) (P90 : ad ≠ aB) (P91 : n0 ≤ o_) :
    MetFree l (⟨"com/example/shortlist/shortlist/SelectionMeasures", "add", "([I[I)V"⟩ : MethodName) (head1 (Jvm.Cond.code (⟨"com/example/shortlist/shortlist/SelectionMeasures", "add", "([I[I)V"⟩ : MethodName) prog_41_method_2_code 16 none :: ws) ({ frames := 4, cells := 1, slots := 2, locals := 79 } : Room)) (fun a U => a = #[(.ref o_), (.ref am), (.ref ad)] ∧ Z.Warmed39 U.vm ∧ U.heap = h0) (fun _ _ _ _ _ => True) (fun _ U o U' => ∃ v L, o = .returned v ∧ QAdd Z o_ qu rel aR kaR rs0 rs1 aH kaH rh0 rh1 aP kaP ps0 ps1 aC kaC cs0 cs1 aF kaF fo0 fo1 aB kaB be0 be1 am kam ad kad x0_ x1_ y0_ y1_ lo_ hi_ c0_ c1_ qr0 qr1 qh0 qh1 qp0 qp1 qc0 qc1 h0 n0 v U'.heap L ∧ FrameEnd U o U' L ({ frames := 4, cells := 1, slots := 2, locals := 79 } : Room).cells ({ frames := 4, cells := 1, slots := 2, locals := 79 } : Room).slots) := by
  refine MetFree.of_bodySF (plainFor_of_name pn_2) hisR ?_
  intro p e s m args below meth c s₁ Bd hml0 hP hK
  obtain ⟨rfl, hZ, hh⟩ := hP
  have hx := Bd.exec
  have hby := Bd.bytes
  have hml : c.maxLocals = 16 := hml0
  have hown : s.vm.findClass "com/example/shortlist/shortlist/SelectionMeasures" = some m.cls := findClass_of_methodNamed Bd.named
  have hnm := (name_of_methodNamed Bd.named Bd.method).1
  have X0 : Stand p l e ({ frames := 4, cells := 1, slots := 2, locals := 79 } : Room) s m #[(.ref o_), (.ref am), (.ref ad)] below meth c s₁ [] 0 0 := Stand.of_body Bd
  have e0 : s₁.heap = h0 := by rw [← hh, Bd.state]; rfl
  have N0 := Fr.nil n0
  obtain ⟨G, pre0, hG⟩ : ∃ G : State → Prop, (∀ t, own_S p e below m s₁ 0 #[lvR o_, lvR am, lvR ad, .unset, .unset, .unset, .unset, .unset, .unset, .unset, .unset, .unset, .unset, .unset, .unset, .unset] [] t → G t) ∧ (∀ t, G t → Steps p.tables e below (s₁.setTop (entryFrame m #[(.ref o_), (.ref am), (.ref ad)] 16)) t) := ⟨fun t => Steps p.tables e below (s₁.setTop (entryFrame m #[(.ref o_), (.ref am), (.ref ad)] 16)) t, fun t k => castTop (efAdd m o_ am ad) k, fun _ k => k⟩
  have K0 : Keep h0 h0 [aR, aH, aP, aC, aF, aB, o_] := Keep.refl _ _
  obtain ⟨c1, r1, q1, s1, z1, y1, G1⟩ := id P50
  obtain ⟨T2, X2, e2, st2⟩ := getF X0 hx hZ hown (host := "") (Or.inl (own_w hw 11 rfl)) Via.refl e0 P34 (g := (mkF m 3 #[lvR o_, lvR am, lvR ad, .unset, .unset, .unset, .unset, .unset, .unset, .unset, .unset, .unset, .unset, .unset, .unset, .unset] [(.ref o_), (.int (2 : Int32))])) rfl rfl (hb hby d7_3)
  obtain ⟨c3, r3, q3, s3, z3, y3, G3⟩ := id P51
  obtain ⟨T4, X4, e4, st4⟩ := getF X2 hx hZ hown (host := "") (Or.inl (own_w hw 11 rfl)) Via.refl e2 P34 (g := (mkF m 12 #[lvR o_, lvR am, lvR ad, .unset, .unset, .unset, .unset, .unset, .unset, .unset, .unset, .unset, .unset, .unset, .unset, .unset] [(.ref o_), (.int (2 : Int32))])) rfl rfl (hb hby d7_12)
  obtain ⟨_, _, ⟨T5, L5, k5, n5⟩, -, X5, ⟨Lc5, hQ5, l5, y5, z5⟩, st5⟩ := Jvm.LawKit.callS X4 hx (y := (⟨"com/example/shortlist/shortlist/SelectionMeasures", "sum", "([I)J"⟩ : MethodName)) hown (mvT hZ (own_w hw 32 rfl)) (mvT hZ (own_w hw 33 rfl)) (mvT hZ (own_w hw 4 rfl)) (mvT hZ (own_w hw 34 rfl)) (by decide) (backOf (W := 0) (rmSum l Z a0 hw [] am kam x0_ x1_ h0 n0 O0 hx0_ hx1_ P50) hZ (own_w hw 34 rfl) (own_w hw 4 rfl) (by decide) (by decide)) (g := (mkF m 40 #[lvR o_, lvR am, lvR ad, .unset, .unset, .unset, .unset, .unset, .unset, .unset, .unset, .unset, .unset, .unset, .unset, .unset] [(.ref am)])) rfl (by rw [hml]; rfl) (argsL := [(.ref am)]) (rest := []) (lenOf pd_3 rfl) rfl (by show 2 * 0 + _ ≤ _; exact Nat.le_of_eq rfl) (hb hby d7_40) (fun _ _ => ⟨rfl, e4, (by decide : 0 + 0 ≤ _), (by decide : 0 + 0 ≤ _)⟩)
  dsimp only [Pt.U, Pt.locs, Pt.cells, Pt.slots] at X5 l5 y5 z5 st5 hQ5
  subst l5 y5 z5
  obtain ⟨h5, e5⟩ : ∃ z, T5.heap = z := ⟨_, rfl⟩
  rw [e5] at hQ5
  obtain ⟨rfl, N5q, hh5⟩ := hQ5
  have N6 := Fr.app N0 N5q
  have e5' : T5.heap = h0 := e5.trans hh5
  obtain ⟨_, _, ⟨T7, L7, k7, n7⟩, -, X7, ⟨Lc7, hQ7, l7, y7, z7⟩, st7⟩ := Jvm.LawKit.callS X5 hx (y := (⟨"com/example/shortlist/shortlist/SelectionMeasures", "sum", "([I)J"⟩ : MethodName)) hown (mvT hZ (own_w hw 32 rfl)) (mvT hZ (own_w hw 33 rfl)) (mvT hZ (own_w hw 4 rfl)) (mvT hZ (own_w hw 34 rfl)) (by decide) (backOf (W := 0) (rmSum l Z a0 hw [] ad kad y0_ y1_ h0 n0 O0 hx2_ hx3_ P51) hZ (own_w hw 34 rfl) (own_w hw 4 rfl) (by decide) (by decide)) (g := (mkF m 45 #[lvR o_, lvR am, lvR ad, lvJ (((0 : Int64) + (x0_.toInt64)) + (x1_.toInt64)), .second, .unset, .unset, .unset, .unset, .unset, .unset, .unset, .unset, .unset, .unset, .unset] [(.ref ad)])) rfl (by rw [hml]; rfl) (argsL := [(.ref ad)]) (rest := []) (lenOf pd_3 rfl) rfl (by show 2 * 0 + _ ≤ _; exact Nat.le_of_eq rfl) (hb hby d7_45) (fun _ _ => ⟨rfl, e5', (by decide : 0 + 0 ≤ _), (by decide : 0 + 0 ≤ _)⟩)
  dsimp only [Pt.U, Pt.locs, Pt.cells, Pt.slots] at X7 l7 y7 z7 st7 hQ7
  subst l7 y7 z7
  obtain ⟨h7, e7⟩ : ∃ z, T7.heap = z := ⟨_, rfl⟩
  rw [e7] at hQ7
  obtain ⟨rfl, N7q, hh7⟩ := hQ7
  have N8 := Fr.app N6 N7q
  have e7' : T7.heap = h0 := e7.trans hh7
  obtain ⟨T9, h9, X9, e9, E9, A9, Z9, st9⟩ := cloneH X7 hx hZ hown (own_w hw 35 rfl) (own_w hw 36 rfl) (own_w hw 40 rfl) (own_w hw 38 rfl) (own_w hw 39 rfl) (own_w hw 41 rfl) e7' P50.arh P49 (g := (mkF m 74 #[lvR o_, lvR am, lvR ad, lvJ (((0 : Int64) + (x0_.toInt64)) + (x1_.toInt64)), .second, lvJ (((0 : Int64) + (y0_.toInt64)) + (y1_.toInt64)), .second, .unset, .unset, .unset, .unset, .unset, .unset, .unset, .unset, .unset] [(.ref am)])) rfl (by rw [hml]; rfl) rfl (hb hby d7_74) (by decide) (W := 0) (cap := 2) (by show 2 * 0 + _ ≤ _; exact Nat.le_of_eq rfl) (by decide) (by decide) (by decide) (by decide)
  obtain ⟨b9, g9⟩ : ∃ z, z = h0.size := ⟨_, rfl⟩
  rw [← g9] at A9 Z9 st9
  have ge10 : n0 ≤ b9 := Nat.le_trans (Nat.le_trans (Nat.le_of_eq O0.1.symm) O0.2.1) (Nat.le_of_eq g9.symm)
  have sz11 : h0.size ≤ b9 := Nat.le_trans K0.1 (Nat.le_of_eq g9.symm)
  have f12 : Arv Z h9 b9 kam .int (2 : Int32) [(.int x0_), (.int x1_)] (.int (0 : Int32)) := A9
  obtain ⟨T13, X13, e13, st13⟩ := castY X9 hx hZ hown (own_w hw 42 rfl) e9 (Ins.self Z9) (g := (mkF m 77 #[lvR o_, lvR am, lvR ad, lvJ (((0 : Int64) + (x0_.toInt64)) + (x1_.toInt64)), .second, lvJ (((0 : Int64) + (y0_.toInt64)) + (y1_.toInt64)), .second, .unset, .unset, .unset, .unset, .unset, .unset, .unset, .unset, .unset] [(.ref b9)])) rfl rfl (hb hby d7_77)
  have f15 : Old Z n0 h9 := O0.ext E9
  obtain ⟨_, _, ⟨T14, L14, k14, n14⟩, -, X14, ⟨Lc14, hQ14, l14, y14, z14⟩, st14⟩ := Jvm.LawKit.callS X13 hx (y := (⟨"java/util/Arrays", "sort", "([I)V"⟩ : MethodName)) hown (mvT hZ (own_w hw 44 rfl)) (mvT hZ (own_w hw 45 rfl)) (mvT hZ (own_w hw 46 rfl)) (mvT hZ (own_w hw 47 rfl)) (by decide) (backOf (W := 0) (rmSort l Z a0 hw [] b9 kam x0_ x1_ lo_ hi_ h9 n0 f15 hS f12 ge10) hZ (own_w hw 47 rfl) (own_w hw 46 rfl) (by decide) (by decide)) (g := (mkF m 84 #[lvR o_, lvR am, lvR ad, lvJ (((0 : Int64) + (x0_.toInt64)) + (x1_.toInt64)), .second, lvJ (((0 : Int64) + (y0_.toInt64)) + (y1_.toInt64)), .second, lvR b9, .unset, .unset, .unset, .unset, .unset, .unset, .unset, .unset] [(.ref b9)])) rfl (by rw [hml]; rfl) (argsL := [(.ref b9)]) (rest := []) (lenOf pd_4 rfl) rfl (by show 2 * 0 + _ ≤ _; exact Nat.le_of_eq rfl) (hb hby d7_84) (fun _ _ => ⟨rfl, e13, (by decide : 1 + 0 ≤ _), (by decide : 2 + 0 ≤ _)⟩)
  dsimp only [Pt.U, Pt.locs, Pt.cells, Pt.slots] at X14 l14 y14 z14 st14 hQ14
  subst l14 y14 z14
  obtain ⟨h14, e14⟩ : ∃ z, T14.heap = z := ⟨_, rfl⟩
  rw [e14] at hQ14
  obtain ⟨rfl, N14q, K14, g14_0⟩ := hQ14
  have N16 := Fr.app N8 N14q
  have f17 : Fld Z h9 o_ cn1 "collections" "I" (.int (2 : Int32)) := P34.ext E9
  have ne19 : o_ ≠ b9 := Nat.ne_of_lt (Nat.lt_of_lt_of_le P33.lt (Nat.le_of_eq g9.symm))
  have f18 : Fld Z h14 o_ cn1 "collections" "I" (.int (2 : Int32)) := f17.keep K14 (ninS ne19 nin0)
  obtain ⟨T20, X20, e20, st20⟩ := getF X14 hx hZ hown (host := "") (Or.inl (own_w hw 11 rfl)) Via.refl e14 f18 (g := (mkF m 105 #[lvR o_, lvR am, lvR ad, lvJ (((0 : Int64) + (x0_.toInt64)) + (x1_.toInt64)), .second, lvJ (((0 : Int64) + (y0_.toInt64)) + (y1_.toInt64)), .second, lvR b9, lvJ (0 : Int64), .second, lvJ (0 : Int64), .second, lvI (0 : Int32), lvJ (0 : Int64), .second, lvI (0 : Int32)] [(.ref o_), (.int (0 : Int32))])) rfl rfl (hb hby d7_105)
  have f21 : Arv Z h9 am kam .int (2 : Int32) [(.int x0_), (.int x1_)] (.int (0 : Int32)) := P50.ext E9
  have ne23 : am ≠ b9 := Nat.ne_of_lt (Nat.lt_of_lt_of_le P49.lt (Nat.le_of_eq g9.symm))
  have f22 : Arv Z h14 am kam .int (2 : Int32) [(.int x0_), (.int x1_)] (.int (0 : Int32)) := f21.keep K14 (ninS ne23 nin0)
  obtain ⟨c24, r24, q24, s24, z24, y24, G24⟩ := id f22
  have hin24 : ¬ ((0 : Int32) < 0 ∨ c24.slots.size ≤ ((0 : Int32)).toNatClampNeg) := inb_of s24 ⟨by decide, by decide⟩
  have hat24 : c24.slots[((0 : Int32)).toNatClampNeg]? = some (.int x0_) := Has.at y24 hin24 rfl
  obtain ⟨T25, X25, e25, st25⟩ := getF X20 hx hZ hown (host := "") (Or.inl (own_w hw 11 rfl)) Via.refl e20 f18 (g := (mkF m 126 #[lvR o_, lvR am, lvR ad, lvJ (((0 : Int64) + (x0_.toInt64)) + (x1_.toInt64)), .second, lvJ (((0 : Int64) + (y0_.toInt64)) + (y1_.toInt64)), .second, lvR b9, lvJ ((0 : Int64) + (x0_.toInt64)), .second, lvJ (0 : Int64), .second, lvI (0 : Int32), lvJ (0 : Int64), .second, lvI (0 : Int32)] [(.ref o_), (.ref b9), (.long (0 : Int64))])) rfl rfl (hb hby d7_126)
  obtain ⟨c26, r26, q26, s26, z26, y26, G26⟩ := id g14_0
  have hin26 : ¬ ((1 : Int32) < 0 ∨ c26.slots.size ≤ ((1 : Int32)).toNatClampNeg) := inb_of s26 ⟨by decide, by decide⟩
  have hat26 : c26.slots[((1 : Int32)).toNatClampNeg]? = some (.int hi_) := Has.at y26 hin26 rfl
  obtain ⟨c27, r27, q27, s27, z27, y27, G27⟩ := id f22
  have hin27 : ¬ ((0 : Int32) < 0 ∨ c27.slots.size ≤ ((0 : Int32)).toNatClampNeg) := inb_of s27 ⟨by decide, by decide⟩
  have hat27 : c27.slots[((0 : Int32)).toNatClampNeg]? = some (.int x0_) := Has.at y27 hin27 rfl
  have pre28 : ∀ t, own_S p e below m T25 145 #[lvR o_, lvR am, lvR ad, lvJ (((0 : Int64) + (x0_.toInt64)) + (x1_.toInt64)), .second, lvJ (((0 : Int64) + (y0_.toInt64)) + (y1_.toInt64)), .second, lvR b9, lvJ ((0 : Int64) + (x0_.toInt64)), .second, lvJ ((0 : Int64) + (hi_.toInt64)), .second, lvI (0 : Int32), lvJ (0 : Int64), .second, lvI (0 : Int32)] [(.int x0_), (.int (0 : Int32))] t → G t := by
    intro t kt
    refine pre0 t ?_
    show own_S p e below m s₁ 0 #[lvR o_, lvR am, lvR ad, .unset, .unset, .unset, .unset, .unset, .unset, .unset, .unset, .unset, .unset, .unset, .unset, .unset] [] _
    refine XS.aloadN X0.here hx rfl (hb hby d7_0) rfl rfl ?_
    show own_S p e below m s₁ 1 #[lvR o_, lvR am, lvR ad, .unset, .unset, .unset, .unset, .unset, .unset, .unset, .unset, .unset, .unset, .unset, .unset, .unset] [(.ref am)] _
    refine X0.arraylength hx (by rw [e0]; exact r1.1) (State.isArrayOf_alike hZ.alike r1.2.1) (g := (mkF m 1 #[lvR o_, lvR am, lvR ad, .unset, .unset, .unset, .unset, .unset, .unset, .unset, .unset, .unset, .unset, .unset, .unset, .unset] [(.ref am)])) rfl rfl (hb hby d7_1) _ ?_
    rw [len_of s1 z1]
    refine XS.aloadN X0.here hx rfl (hb hby d7_2) rfl rfl ?_
    show own_S p e below m s₁ 3 #[lvR o_, lvR am, lvR ad, .unset, .unset, .unset, .unset, .unset, .unset, .unset, .unset, .unset, .unset, .unset, .unset, .unset] [(.ref o_), (.int (2 : Int32))] _
    refine st2 _ ?_
    show own_S p e below m T2 6 #[lvR o_, lvR am, lvR ad, .unset, .unset, .unset, .unset, .unset, .unset, .unset, .unset, .unset, .unset, .unset, .unset, .unset] [(.int (2 : Int32)), (.int (2 : Int32))] _
    refine XS.icmpNo X2.here hx rfl (hb hby d7_6) rfl (teq (by decide : (2 : Int32) = (2 : Int32))).2 ?_
    refine XS.aloadN X2.here hx rfl (hb hby d7_9) rfl rfl ?_
    show own_S p e below m T2 10 #[lvR o_, lvR am, lvR ad, .unset, .unset, .unset, .unset, .unset, .unset, .unset, .unset, .unset, .unset, .unset, .unset, .unset] [(.ref ad)] _
    refine X2.arraylength hx (by rw [e2]; exact r3.1) (State.isArrayOf_alike hZ.alike r3.2.1) (g := (mkF m 10 #[lvR o_, lvR am, lvR ad, .unset, .unset, .unset, .unset, .unset, .unset, .unset, .unset, .unset, .unset, .unset, .unset, .unset] [(.ref ad)])) rfl rfl (hb hby d7_10) _ ?_
    rw [len_of s3 z3]
    refine XS.aloadN X2.here hx rfl (hb hby d7_11) rfl rfl ?_
    show own_S p e below m T2 12 #[lvR o_, lvR am, lvR ad, .unset, .unset, .unset, .unset, .unset, .unset, .unset, .unset, .unset, .unset, .unset, .unset, .unset] [(.ref o_), (.int (2 : Int32))] _
    refine st4 _ ?_
    show own_S p e below m T4 15 #[lvR o_, lvR am, lvR ad, .unset, .unset, .unset, .unset, .unset, .unset, .unset, .unset, .unset, .unset, .unset, .unset, .unset] [(.int (2 : Int32)), (.int (2 : Int32))] _
    refine XS.icmpYes X4.here hx rfl (pc0 := 15) (pc' := 39) rfl (hb hby d7_15) rfl (teq (by decide : (2 : Int32) = (2 : Int32))).1 (by decide) (by decide) ?_
    refine XS.aloadN X4.here hx rfl (hb hby d7_39) rfl rfl ?_
    show own_S p e below m T4 40 #[lvR o_, lvR am, lvR ad, .unset, .unset, .unset, .unset, .unset, .unset, .unset, .unset, .unset, .unset, .unset, .unset, .unset] [(.ref am)] _
    refine st5 _ ?_
    refine XS.lstoreN X5.here hx rfl (hb hby d7_43) rfl (l' := #[lvR o_, lvR am, lvR ad, lvJ (((0 : Int64) + (x0_.toInt64)) + (x1_.toInt64)), .second, .unset, .unset, .unset, .unset, .unset, .unset, .unset, .unset, .unset, .unset, .unset]) rfl ?_
    refine XS.aloadN X5.here hx rfl (hb hby d7_44) rfl rfl ?_
    show own_S p e below m T5 45 #[lvR o_, lvR am, lvR ad, lvJ (((0 : Int64) + (x0_.toInt64)) + (x1_.toInt64)), .second, .unset, .unset, .unset, .unset, .unset, .unset, .unset, .unset, .unset, .unset, .unset] [(.ref ad)] _
    refine st7 _ ?_
    refine XS.lstore X7.here hx rfl (hb hby d7_48) rfl (l' := #[lvR o_, lvR am, lvR ad, lvJ (((0 : Int64) + (x0_.toInt64)) + (x1_.toInt64)), .second, lvJ (((0 : Int64) + (y0_.toInt64)) + (y1_.toInt64)), .second, .unset, .unset, .unset, .unset, .unset, .unset, .unset, .unset, .unset]) rfl ?_
    refine XS.lloadN X7.here hx rfl (hb hby d7_50) rfl ?_
    refine XS.lconst X7.here hx rfl (hb hby d7_51) ?_
    refine XS.lcmp X7.here hx rfl (hb hby d7_52) rfl ?_
    show own_S p e below m T7 53 #[lvR o_, lvR am, lvR ad, lvJ (((0 : Int64) + (x0_.toInt64)) + (x1_.toInt64)), .second, lvJ (((0 : Int64) + (y0_.toInt64)) + (y1_.toInt64)), .second, .unset, .unset, .unset, .unset, .unset, .unset, .unset, .unset, .unset] [(.int (lcmpW (((0 : Int64) + (x0_.toInt64)) + (x1_.toInt64)) (0 : Int64)))] _
    refine XS.ifNo X7.here hx rfl (hb hby d7_53) rfl ((if0 _ _).trans (feq (fun z => hz0 ((lw_eq _ _).mp z))).1) ?_
    refine XS.lload X7.here hx rfl (hb hby d7_56) rfl ?_
    refine XS.lconst X7.here hx rfl (hb hby d7_58) ?_
    refine XS.lcmp X7.here hx rfl (hb hby d7_59) rfl ?_
    show own_S p e below m T7 60 #[lvR o_, lvR am, lvR ad, lvJ (((0 : Int64) + (x0_.toInt64)) + (x1_.toInt64)), .second, lvJ (((0 : Int64) + (y0_.toInt64)) + (y1_.toInt64)), .second, .unset, .unset, .unset, .unset, .unset, .unset, .unset, .unset, .unset] [(.int (lcmpW (((0 : Int64) + (y0_.toInt64)) + (y1_.toInt64)) (0 : Int64)))] _
    refine XS.ifYes X7.here hx rfl (pc0 := 60) (pc' := 73) rfl (hb hby d7_60) rfl ((if0 _ _).trans (feq (fun z => hz1 ((lw_eq _ _).mp z))).2) (by decide) (by decide) ?_
    refine XS.aloadN X7.here hx rfl (hb hby d7_73) rfl rfl ?_
    show own_S p e below m T7 74 #[lvR o_, lvR am, lvR ad, lvJ (((0 : Int64) + (x0_.toInt64)) + (x1_.toInt64)), .second, lvJ (((0 : Int64) + (y0_.toInt64)) + (y1_.toInt64)), .second, .unset, .unset, .unset, .unset, .unset, .unset, .unset, .unset, .unset] [(.ref am)] _
    refine st9 _ ?_
    show own_S p e below m T9 77 #[lvR o_, lvR am, lvR ad, lvJ (((0 : Int64) + (x0_.toInt64)) + (x1_.toInt64)), .second, lvJ (((0 : Int64) + (y0_.toInt64)) + (y1_.toInt64)), .second, .unset, .unset, .unset, .unset, .unset, .unset, .unset, .unset, .unset] [(.ref b9)] _
    refine st13 _ ?_
    refine XS.astore X13.here hx rfl (hb hby d7_80) rfl rfl (l' := #[lvR o_, lvR am, lvR ad, lvJ (((0 : Int64) + (x0_.toInt64)) + (x1_.toInt64)), .second, lvJ (((0 : Int64) + (y0_.toInt64)) + (y1_.toInt64)), .second, lvR b9, .unset, .unset, .unset, .unset, .unset, .unset, .unset, .unset]) rfl ?_
    refine XS.aload X13.here hx rfl (hb hby d7_82) rfl rfl ?_
    show own_S p e below m T13 84 #[lvR o_, lvR am, lvR ad, lvJ (((0 : Int64) + (x0_.toInt64)) + (x1_.toInt64)), .second, lvJ (((0 : Int64) + (y0_.toInt64)) + (y1_.toInt64)), .second, lvR b9, .unset, .unset, .unset, .unset, .unset, .unset, .unset, .unset] [(.ref b9)] _
    refine st14 _ ?_
    refine XS.lconst X14.here hx rfl (hb hby d7_87) ?_
    refine XS.lstore X14.here hx rfl (hb hby d7_88) rfl (l' := #[lvR o_, lvR am, lvR ad, lvJ (((0 : Int64) + (x0_.toInt64)) + (x1_.toInt64)), .second, lvJ (((0 : Int64) + (y0_.toInt64)) + (y1_.toInt64)), .second, lvR b9, lvJ (0 : Int64), .second, .unset, .unset, .unset, .unset, .unset, .unset]) rfl ?_
    refine XS.lconst X14.here hx rfl (hb hby d7_90) ?_
    refine XS.lstore X14.here hx rfl (hb hby d7_91) rfl (l' := #[lvR o_, lvR am, lvR ad, lvJ (((0 : Int64) + (x0_.toInt64)) + (x1_.toInt64)), .second, lvJ (((0 : Int64) + (y0_.toInt64)) + (y1_.toInt64)), .second, lvR b9, lvJ (0 : Int64), .second, lvJ (0 : Int64), .second, .unset, .unset, .unset, .unset]) rfl ?_
    refine XS.iconst X14.here hx rfl (hb hby d7_93) ?_
    refine XS.istore X14.here hx rfl (hb hby d7_94) rfl (l' := #[lvR o_, lvR am, lvR ad, lvJ (((0 : Int64) + (x0_.toInt64)) + (x1_.toInt64)), .second, lvJ (((0 : Int64) + (y0_.toInt64)) + (y1_.toInt64)), .second, lvR b9, lvJ (0 : Int64), .second, lvJ (0 : Int64), .second, lvI (0 : Int32), .unset, .unset, .unset]) rfl ?_
    refine XS.lconst X14.here hx rfl (hb hby d7_96) ?_
    show own_S p e below m T14 97 #[lvR o_, lvR am, lvR ad, lvJ (((0 : Int64) + (x0_.toInt64)) + (x1_.toInt64)), .second, lvJ (((0 : Int64) + (y0_.toInt64)) + (y1_.toInt64)), .second, lvR b9, lvJ (0 : Int64), .second, lvJ (0 : Int64), .second, lvI (0 : Int32), .unset, .unset, .unset] [(.long (0 : Int64))] _
    refine XS.lstore X14.here hx rfl (hb hby d7_97) rfl (l' := #[lvR o_, lvR am, lvR ad, lvJ (((0 : Int64) + (x0_.toInt64)) + (x1_.toInt64)), .second, lvJ (((0 : Int64) + (y0_.toInt64)) + (y1_.toInt64)), .second, lvR b9, lvJ (0 : Int64), .second, lvJ (0 : Int64), .second, lvI (0 : Int32), lvJ (0 : Int64), .second, .unset]) rfl ?_
    refine XS.iconst X14.here hx rfl (hb hby d7_99) ?_
    refine XS.istore X14.here hx rfl (hb hby d7_100) rfl (l' := #[lvR o_, lvR am, lvR ad, lvJ (((0 : Int64) + (x0_.toInt64)) + (x1_.toInt64)), .second, lvJ (((0 : Int64) + (y0_.toInt64)) + (y1_.toInt64)), .second, lvR b9, lvJ (0 : Int64), .second, lvJ (0 : Int64), .second, lvI (0 : Int32), lvJ (0 : Int64), .second, lvI (0 : Int32)]) rfl ?_
    refine XS.iload X14.here hx rfl (hb hby d7_102) rfl ?_
    refine XS.aloadN X14.here hx rfl (hb hby d7_104) rfl rfl ?_
    show own_S p e below m T14 105 #[lvR o_, lvR am, lvR ad, lvJ (((0 : Int64) + (x0_.toInt64)) + (x1_.toInt64)), .second, lvJ (((0 : Int64) + (y0_.toInt64)) + (y1_.toInt64)), .second, lvR b9, lvJ (0 : Int64), .second, lvJ (0 : Int64), .second, lvI (0 : Int32), lvJ (0 : Int64), .second, lvI (0 : Int32)] [(.ref o_), (.int (0 : Int32))] _
    refine st20 _ ?_
    show own_S p e below m T20 108 #[lvR o_, lvR am, lvR ad, lvJ (((0 : Int64) + (x0_.toInt64)) + (x1_.toInt64)), .second, lvJ (((0 : Int64) + (y0_.toInt64)) + (y1_.toInt64)), .second, lvR b9, lvJ (0 : Int64), .second, lvJ (0 : Int64), .second, lvI (0 : Int32), lvJ (0 : Int64), .second, lvI (0 : Int32)] [(.int (2 : Int32)), (.int (0 : Int32))] _
    refine XS.icmpNo X20.here hx rfl (hb hby d7_108) rfl (tlt (by decide : (0 : Int32) < (2 : Int32))).2.1 ?_
    refine XS.lload X20.here hx rfl (hb hby d7_111) rfl ?_
    refine XS.aloadN X20.here hx rfl (hb hby d7_113) rfl rfl ?_
    refine XS.iload X20.here hx rfl (hb hby d7_114) rfl ?_
    show own_S p e below m T20 116 #[lvR o_, lvR am, lvR ad, lvJ (((0 : Int64) + (x0_.toInt64)) + (x1_.toInt64)), .second, lvJ (((0 : Int64) + (y0_.toInt64)) + (y1_.toInt64)), .second, lvR b9, lvJ (0 : Int64), .second, lvJ (0 : Int64), .second, lvI (0 : Int32), lvJ (0 : Int64), .second, lvI (0 : Int32)] [(.int (0 : Int32)), (.ref am), (.long (0 : Int64))] _
    refine X20.iaload hx (j := (0 : Int32)) (v := (.int x0_)) (by rw [e20]; exact r24.1) (State.isArrayOf_alike hZ.alike r24.2.1) r24.2.2 hin24 hat24 (g := (mkF m 116 #[lvR o_, lvR am, lvR ad, lvJ (((0 : Int64) + (x0_.toInt64)) + (x1_.toInt64)), .second, lvJ (((0 : Int64) + (y0_.toInt64)) + (y1_.toInt64)), .second, lvR b9, lvJ (0 : Int64), .second, lvJ (0 : Int64), .second, lvI (0 : Int32), lvJ (0 : Int64), .second, lvI (0 : Int32)] [(.int (0 : Int32)), (.ref am), (.long (0 : Int64))])) rfl rfl (hb hby d7_116) _ ?_
    refine XS.i2l X20.here hx rfl (hb hby d7_117) rfl ?_
    refine XS.ladd X20.here hx rfl (hb hby d7_118) rfl ?_
    refine XS.lstore X20.here hx rfl (hb hby d7_119) rfl (l' := #[lvR o_, lvR am, lvR ad, lvJ (((0 : Int64) + (x0_.toInt64)) + (x1_.toInt64)), .second, lvJ (((0 : Int64) + (y0_.toInt64)) + (y1_.toInt64)), .second, lvR b9, lvJ ((0 : Int64) + (x0_.toInt64)), .second, lvJ (0 : Int64), .second, lvI (0 : Int32), lvJ (0 : Int64), .second, lvI (0 : Int32)]) rfl ?_
    refine XS.lload X20.here hx rfl (hb hby d7_121) rfl ?_
    refine XS.aload X20.here hx rfl (hb hby d7_123) rfl rfl ?_
    refine XS.aloadN X20.here hx rfl (hb hby d7_125) rfl rfl ?_
    show own_S p e below m T20 126 #[lvR o_, lvR am, lvR ad, lvJ (((0 : Int64) + (x0_.toInt64)) + (x1_.toInt64)), .second, lvJ (((0 : Int64) + (y0_.toInt64)) + (y1_.toInt64)), .second, lvR b9, lvJ ((0 : Int64) + (x0_.toInt64)), .second, lvJ (0 : Int64), .second, lvI (0 : Int32), lvJ (0 : Int64), .second, lvI (0 : Int32)] [(.ref o_), (.ref b9), (.long (0 : Int64))] _
    refine st25 _ ?_
    refine XS.iconst X25.here hx rfl (hb hby d7_129) ?_
    refine XS.isub X25.here hx rfl (hb hby d7_130) rfl ?_
    refine XS.iload X25.here hx rfl (hb hby d7_131) rfl ?_
    refine XS.isub X25.here hx rfl (hb hby d7_133) rfl ?_
    show own_S p e below m T25 134 #[lvR o_, lvR am, lvR ad, lvJ (((0 : Int64) + (x0_.toInt64)) + (x1_.toInt64)), .second, lvJ (((0 : Int64) + (y0_.toInt64)) + (y1_.toInt64)), .second, lvR b9, lvJ ((0 : Int64) + (x0_.toInt64)), .second, lvJ (0 : Int64), .second, lvI (0 : Int32), lvJ (0 : Int64), .second, lvI (0 : Int32)] [(.int (1 : Int32)), (.ref b9), (.long (0 : Int64))] _
    refine X25.iaload hx (j := (1 : Int32)) (v := (.int hi_)) (by rw [e25]; exact r26.1) (State.isArrayOf_alike hZ.alike r26.2.1) r26.2.2 hin26 hat26 (g := (mkF m 134 #[lvR o_, lvR am, lvR ad, lvJ (((0 : Int64) + (x0_.toInt64)) + (x1_.toInt64)), .second, lvJ (((0 : Int64) + (y0_.toInt64)) + (y1_.toInt64)), .second, lvR b9, lvJ ((0 : Int64) + (x0_.toInt64)), .second, lvJ (0 : Int64), .second, lvI (0 : Int32), lvJ (0 : Int64), .second, lvI (0 : Int32)] [(.int (1 : Int32)), (.ref b9), (.long (0 : Int64))])) rfl rfl (hb hby d7_134) _ ?_
    refine XS.i2l X25.here hx rfl (hb hby d7_135) rfl ?_
    refine XS.ladd X25.here hx rfl (hb hby d7_136) rfl ?_
    refine XS.lstore X25.here hx rfl (hb hby d7_137) rfl (l' := #[lvR o_, lvR am, lvR ad, lvJ (((0 : Int64) + (x0_.toInt64)) + (x1_.toInt64)), .second, lvJ (((0 : Int64) + (y0_.toInt64)) + (y1_.toInt64)), .second, lvR b9, lvJ ((0 : Int64) + (x0_.toInt64)), .second, lvJ ((0 : Int64) + (hi_.toInt64)), .second, lvI (0 : Int32), lvJ (0 : Int64), .second, lvI (0 : Int32)]) rfl ?_
    refine XS.iload X25.here hx rfl (hb hby d7_139) rfl ?_
    refine XS.aloadN X25.here hx rfl (hb hby d7_141) rfl rfl ?_
    refine XS.iload X25.here hx rfl (hb hby d7_142) rfl ?_
    show own_S p e below m T25 144 #[lvR o_, lvR am, lvR ad, lvJ (((0 : Int64) + (x0_.toInt64)) + (x1_.toInt64)), .second, lvJ (((0 : Int64) + (y0_.toInt64)) + (y1_.toInt64)), .second, lvR b9, lvJ ((0 : Int64) + (x0_.toInt64)), .second, lvJ ((0 : Int64) + (hi_.toInt64)), .second, lvI (0 : Int32), lvJ (0 : Int64), .second, lvI (0 : Int32)] [(.int (0 : Int32)), (.ref am), (.int (0 : Int32))] _
    refine X25.iaload hx (j := (0 : Int32)) (v := (.int x0_)) (by rw [e25]; exact r27.1) (State.isArrayOf_alike hZ.alike r27.2.1) r27.2.2 hin27 hat27 (g := (mkF m 144 #[lvR o_, lvR am, lvR ad, lvJ (((0 : Int64) + (x0_.toInt64)) + (x1_.toInt64)), .second, lvJ (((0 : Int64) + (y0_.toInt64)) + (y1_.toInt64)), .second, lvR b9, lvJ ((0 : Int64) + (x0_.toInt64)), .second, lvJ ((0 : Int64) + (hi_.toInt64)), .second, lvI (0 : Int32), lvJ (0 : Int64), .second, lvI (0 : Int32)] [(.int (0 : Int32)), (.ref am), (.int (0 : Int32))])) rfl rfl (hb hby d7_144) _ ?_
    exact kt
  have pre29 : ∀ t, own_S p e below m T25 153 #[lvR o_, lvR am, lvR ad, lvJ (((0 : Int64) + (x0_.toInt64)) + (x1_.toInt64)), .second, lvJ (((0 : Int64) + (y0_.toInt64)) + (y1_.toInt64)), .second, lvR b9, lvJ ((0 : Int64) + (x0_.toInt64)), .second, lvJ ((0 : Int64) + (hi_.toInt64)), .second, lvI (0 : Int32), lvJ (0 : Int64), .second, lvI (0 : Int32)] [(.int c0_), (.int (0 : Int32))] t → G t := by
    intro t kt
    rcases hp0 with ⟨hj30_0, ej30_0⟩ | ⟨hj31_0, ej31_0⟩
    · have pre32 : ∀ t, own_S p e below m T25 153 #[lvR o_, lvR am, lvR ad, lvJ (((0 : Int64) + (x0_.toInt64)) + (x1_.toInt64)), .second, lvJ (((0 : Int64) + (y0_.toInt64)) + (y1_.toInt64)), .second, lvR b9, lvJ ((0 : Int64) + (x0_.toInt64)), .second, lvJ ((0 : Int64) + (hi_.toInt64)), .second, lvI (0 : Int32), lvJ (0 : Int64), .second, lvI (0 : Int32)] [(.int (1 : Int32)), (.int (0 : Int32))] t → G t := by
        intro t kt
        refine pre28 t ?_
        show own_S p e below m T25 145 #[lvR o_, lvR am, lvR ad, lvJ (((0 : Int64) + (x0_.toInt64)) + (x1_.toInt64)), .second, lvJ (((0 : Int64) + (y0_.toInt64)) + (y1_.toInt64)), .second, lvR b9, lvJ ((0 : Int64) + (x0_.toInt64)), .second, lvJ ((0 : Int64) + (hi_.toInt64)), .second, lvI (0 : Int32), lvJ (0 : Int64), .second, lvI (0 : Int32)] [(.int x0_), (.int (0 : Int32))] _
        refine XS.ifNo X25.here hx rfl (hb hby d7_145) rfl ((if0 _ _).trans (tlt hj30_0).2.2.2) ?_
        refine XS.iconst X25.here hx rfl (hb hby d7_148) ?_
        refine XS.goto X25.here hx rfl (pc0 := 149) (pc' := 153) rfl (hb hby d7_149) (by decide) (by decide) ?_
        exact kt
      exact pre32 t (by rw [ej30_0] at kt; exact kt)
    · have pre33 : ∀ t, own_S p e below m T25 153 #[lvR o_, lvR am, lvR ad, lvJ (((0 : Int64) + (x0_.toInt64)) + (x1_.toInt64)), .second, lvJ (((0 : Int64) + (y0_.toInt64)) + (y1_.toInt64)), .second, lvR b9, lvJ ((0 : Int64) + (x0_.toInt64)), .second, lvJ ((0 : Int64) + (hi_.toInt64)), .second, lvI (0 : Int32), lvJ (0 : Int64), .second, lvI (0 : Int32)] [(.int (0 : Int32)), (.int (0 : Int32))] t → G t := by
        intro t kt
        refine pre28 t ?_
        show own_S p e below m T25 145 #[lvR o_, lvR am, lvR ad, lvJ (((0 : Int64) + (x0_.toInt64)) + (x1_.toInt64)), .second, lvJ (((0 : Int64) + (y0_.toInt64)) + (y1_.toInt64)), .second, lvR b9, lvJ ((0 : Int64) + (x0_.toInt64)), .second, lvJ ((0 : Int64) + (hi_.toInt64)), .second, lvI (0 : Int32), lvJ (0 : Int64), .second, lvI (0 : Int32)] [(.int x0_), (.int (0 : Int32))] _
        refine XS.ifYes X25.here hx rfl (pc0 := 145) (pc' := 152) rfl (hb hby d7_145) rfl ((if0 _ _).trans (flt hj31_0).2.2.2) (by decide) (by decide) ?_
        refine XS.iconst X25.here hx rfl (hb hby d7_152) ?_
        exact kt
      exact pre33 t (by rw [ej31_0] at kt; exact kt)
  have f34 : Arv Z h9 ad kad .int (2 : Int32) [(.int y0_), (.int y1_)] (.int (0 : Int32)) := P51.ext E9
  have ne36 : ad ≠ b9 := Nat.ne_of_lt (Nat.lt_of_lt_of_le P51.lt (Nat.le_of_eq g9.symm))
  have f35 : Arv Z h14 ad kad .int (2 : Int32) [(.int y0_), (.int y1_)] (.int (0 : Int32)) := f34.keep K14 (ninS ne36 nin0)
  obtain ⟨c37, r37, q37, s37, z37, y37, G37⟩ := id f35
  have hin37 : ¬ ((0 : Int32) < 0 ∨ c37.slots.size ≤ ((0 : Int32)).toNatClampNeg) := inb_of s37 ⟨by decide, by decide⟩
  have hat37 : c37.slots[((0 : Int32)).toNatClampNeg]? = some (.int y0_) := Has.at y37 hin37 rfl
  have f38 : Fld Z h9 o_ cn1 "rSums" "[D" (.ref aR) := P37.ext E9
  have f39 : Fld Z h14 o_ cn1 "rSums" "[D" (.ref aR) := f38.keep K14 (ninS ne19 nin0)
  obtain ⟨T40, X40, e40, st40⟩ := getF X25 hx hZ hown (host := "") (Or.inl (own_w hw 14 rfl)) Via.refl e25 f39 (g := (mkF m 167 #[lvR o_, lvR am, lvR ad, lvJ (((0 : Int64) + (x0_.toInt64)) + (x1_.toInt64)), .second, lvJ (((0 : Int64) + (y0_.toInt64)) + (y1_.toInt64)), .second, lvR b9, lvJ ((0 : Int64) + (x0_.toInt64)), .second, lvJ ((0 : Int64) + (hi_.toInt64)), .second, lvI ((0 : Int32) + c0_), lvJ ((0 : Int64) + (y0_.toInt64)), .second, lvI (0 : Int32)] [(.ref o_)])) rfl rfl (hb hby d7_167)
  have f41 : Arv Z h9 aR kaR .double (2 : Int32) [(.double rs0), (.double rs1)] (.double (0 : UInt64)) := P38.ext E9
  have ne43 : aR ≠ b9 := Nat.ne_of_lt (Nat.lt_of_lt_of_le P38.lt (Nat.le_of_eq g9.symm))
  have f42 : Arv Z h14 aR kaR .double (2 : Int32) [(.double rs0), (.double rs1)] (.double (0 : UInt64)) := f41.keep K14 (ninS ne43 nin0)
  obtain ⟨c44, r44, q44, s44, z44, y44, G44⟩ := id f42
  have hin44 : ¬ ((0 : Int32) < 0 ∨ c44.slots.size ≤ ((0 : Int32)).toNatClampNeg) := inb_of s44 ⟨by decide, by decide⟩
  have hat44 : c44.slots[((0 : Int32)).toNatClampNeg]? = some (.double rs0) := Has.at y44 hin44 rfl
  have pre45 : ∀ t, own_S p e below m T40 181 #[lvR o_, lvR am, lvR ad, lvJ (((0 : Int64) + (x0_.toInt64)) + (x1_.toInt64)), .second, lvJ (((0 : Int64) + (y0_.toInt64)) + (y1_.toInt64)), .second, lvR b9, lvJ ((0 : Int64) + (x0_.toInt64)), .second, lvJ ((0 : Int64) + (hi_.toInt64)), .second, lvI ((0 : Int32) + c0_), lvJ ((0 : Int64) + (y0_.toInt64)), .second, lvI (0 : Int32)] [(.double (FP.ddiv (FP.l2d ((0 : Int64) + (x0_.toInt64))) (FP.l2d ((0 : Int64) + (hi_.toInt64))))), (.double rs0), (.int (0 : Int32)), (.ref aR)] t → G t := by
    intro t kt
    refine pre29 t ?_
    show own_S p e below m T25 153 #[lvR o_, lvR am, lvR ad, lvJ (((0 : Int64) + (x0_.toInt64)) + (x1_.toInt64)), .second, lvJ (((0 : Int64) + (y0_.toInt64)) + (y1_.toInt64)), .second, lvR b9, lvJ ((0 : Int64) + (x0_.toInt64)), .second, lvJ ((0 : Int64) + (hi_.toInt64)), .second, lvI (0 : Int32), lvJ (0 : Int64), .second, lvI (0 : Int32)] [(.int c0_), (.int (0 : Int32))] _
    refine XS.iadd X25.here hx rfl (hb hby d7_153) rfl ?_
    refine XS.istore X25.here hx rfl (hb hby d7_154) rfl (l' := #[lvR o_, lvR am, lvR ad, lvJ (((0 : Int64) + (x0_.toInt64)) + (x1_.toInt64)), .second, lvJ (((0 : Int64) + (y0_.toInt64)) + (y1_.toInt64)), .second, lvR b9, lvJ ((0 : Int64) + (x0_.toInt64)), .second, lvJ ((0 : Int64) + (hi_.toInt64)), .second, lvI ((0 : Int32) + c0_), lvJ (0 : Int64), .second, lvI (0 : Int32)]) rfl ?_
    refine XS.lload X25.here hx rfl (hb hby d7_156) rfl ?_
    refine XS.aloadN X25.here hx rfl (hb hby d7_158) rfl rfl ?_
    refine XS.iload X25.here hx rfl (hb hby d7_159) rfl ?_
    show own_S p e below m T25 161 #[lvR o_, lvR am, lvR ad, lvJ (((0 : Int64) + (x0_.toInt64)) + (x1_.toInt64)), .second, lvJ (((0 : Int64) + (y0_.toInt64)) + (y1_.toInt64)), .second, lvR b9, lvJ ((0 : Int64) + (x0_.toInt64)), .second, lvJ ((0 : Int64) + (hi_.toInt64)), .second, lvI ((0 : Int32) + c0_), lvJ (0 : Int64), .second, lvI (0 : Int32)] [(.int (0 : Int32)), (.ref ad), (.long (0 : Int64))] _
    refine X25.iaload hx (j := (0 : Int32)) (v := (.int y0_)) (by rw [e25]; exact r37.1) (State.isArrayOf_alike hZ.alike r37.2.1) r37.2.2 hin37 hat37 (g := (mkF m 161 #[lvR o_, lvR am, lvR ad, lvJ (((0 : Int64) + (x0_.toInt64)) + (x1_.toInt64)), .second, lvJ (((0 : Int64) + (y0_.toInt64)) + (y1_.toInt64)), .second, lvR b9, lvJ ((0 : Int64) + (x0_.toInt64)), .second, lvJ ((0 : Int64) + (hi_.toInt64)), .second, lvI ((0 : Int32) + c0_), lvJ (0 : Int64), .second, lvI (0 : Int32)] [(.int (0 : Int32)), (.ref ad), (.long (0 : Int64))])) rfl rfl (hb hby d7_161) _ ?_
    refine XS.i2l X25.here hx rfl (hb hby d7_162) rfl ?_
    refine XS.ladd X25.here hx rfl (hb hby d7_163) rfl ?_
    refine XS.lstore X25.here hx rfl (hb hby d7_164) rfl (l' := #[lvR o_, lvR am, lvR ad, lvJ (((0 : Int64) + (x0_.toInt64)) + (x1_.toInt64)), .second, lvJ (((0 : Int64) + (y0_.toInt64)) + (y1_.toInt64)), .second, lvR b9, lvJ ((0 : Int64) + (x0_.toInt64)), .second, lvJ ((0 : Int64) + (hi_.toInt64)), .second, lvI ((0 : Int32) + c0_), lvJ ((0 : Int64) + (y0_.toInt64)), .second, lvI (0 : Int32)]) rfl ?_
    refine XS.aloadN X25.here hx rfl (hb hby d7_166) rfl rfl ?_
    show own_S p e below m T25 167 #[lvR o_, lvR am, lvR ad, lvJ (((0 : Int64) + (x0_.toInt64)) + (x1_.toInt64)), .second, lvJ (((0 : Int64) + (y0_.toInt64)) + (y1_.toInt64)), .second, lvR b9, lvJ ((0 : Int64) + (x0_.toInt64)), .second, lvJ ((0 : Int64) + (hi_.toInt64)), .second, lvI ((0 : Int32) + c0_), lvJ ((0 : Int64) + (y0_.toInt64)), .second, lvI (0 : Int32)] [(.ref o_)] _
    refine st40 _ ?_
    refine XS.iload X40.here hx rfl (hb hby d7_170) rfl ?_
    refine XT.dup2 X40.here hx rfl (hb hby d7_172) rfl rfl rfl ?_
    show own_S p e below m T40 173 #[lvR o_, lvR am, lvR ad, lvJ (((0 : Int64) + (x0_.toInt64)) + (x1_.toInt64)), .second, lvJ (((0 : Int64) + (y0_.toInt64)) + (y1_.toInt64)), .second, lvR b9, lvJ ((0 : Int64) + (x0_.toInt64)), .second, lvJ ((0 : Int64) + (hi_.toInt64)), .second, lvI ((0 : Int32) + c0_), lvJ ((0 : Int64) + (y0_.toInt64)), .second, lvI (0 : Int32)] [(.int (0 : Int32)), (.ref aR), (.int (0 : Int32)), (.ref aR)] _
    refine X40.daload hx (j := (0 : Int32)) (v := (.double rs0)) (by rw [e40]; exact r44.1) (State.isArrayOf_alike hZ.alike r44.2.1) r44.2.2 hin44 hat44 (g := (mkF m 173 #[lvR o_, lvR am, lvR ad, lvJ (((0 : Int64) + (x0_.toInt64)) + (x1_.toInt64)), .second, lvJ (((0 : Int64) + (y0_.toInt64)) + (y1_.toInt64)), .second, lvR b9, lvJ ((0 : Int64) + (x0_.toInt64)), .second, lvJ ((0 : Int64) + (hi_.toInt64)), .second, lvI ((0 : Int32) + c0_), lvJ ((0 : Int64) + (y0_.toInt64)), .second, lvI (0 : Int32)] [(.int (0 : Int32)), (.ref aR), (.int (0 : Int32)), (.ref aR)])) rfl rfl (hb hby d7_173) _ ?_
    refine XS.lload X40.here hx rfl (hb hby d7_174) rfl ?_
    refine XS.l2dS X40.here hx rfl (hb hby d7_176) rfl rfl ?_
    refine XS.lload X40.here hx rfl (hb hby d7_177) rfl ?_
    refine XS.l2dS X40.here hx rfl (hb hby d7_179) rfl rfl ?_
    refine XS.ddivS X40.here hx rfl (hb hby d7_180) rfl nqr0 rfl ?_
    exact kt
  have pre46 : ∀ t, own_S p e below m T40 181 #[lvR o_, lvR am, lvR ad, lvJ (((0 : Int64) + (x0_.toInt64)) + (x1_.toInt64)), .second, lvJ (((0 : Int64) + (y0_.toInt64)) + (y1_.toInt64)), .second, lvR b9, lvJ ((0 : Int64) + (x0_.toInt64)), .second, lvJ ((0 : Int64) + (hi_.toInt64)), .second, lvI ((0 : Int32) + c0_), lvJ ((0 : Int64) + (y0_.toInt64)), .second, lvI (0 : Int32)] [(.double qr0), (.double rs0), (.int (0 : Int32)), (.ref aR)] t → G t := fun t kt => pre45 t (by rw [eqr0]; exact kt)
  obtain ⟨c47, r47, q47, s47, z47, y47, G47⟩ := id f42
  have hin47 : ¬ ((0 : Int32) < 0 ∨ c47.slots.size ≤ ((0 : Int32)).toNatClampNeg) := inb_of s47 ⟨by decide, by decide⟩
  obtain ⟨T47, h47, X47, e47, W47, st47⟩ := stD X40 hx hZ e40 r47 (j := (0 : Int32)) hin47 (g := (mkF m 182 #[lvR o_, lvR am, lvR ad, lvJ (((0 : Int64) + (x0_.toInt64)) + (x1_.toInt64)), .second, lvJ (((0 : Int64) + (y0_.toInt64)) + (y1_.toInt64)), .second, lvR b9, lvJ ((0 : Int64) + (x0_.toInt64)), .second, lvJ ((0 : Int64) + (hi_.toInt64)), .second, lvI ((0 : Int32) + c0_), lvJ ((0 : Int64) + (y0_.toInt64)), .second, lvI (0 : Int32)] [(.double (FP.dadd rs0 qr0)), (.int (0 : Int32)), (.ref aR)])) rfl rfl (hb hby d7_182)
  have N48 := Fr.snoc X47 N16 P52
  have f49 : Arv Z h47 aR kaR .double (2 : Int32) [(.double (FP.dadd rs0 qr0)), (.double rs1)] (.double (0 : UInt64)) := Arv.set r47 q47 s47 z47 y47 G47 rfl W47 0 rfl (Nat.le_of_ble_eq_true rfl)
  have f50 : Fld Z h9 o_ cn1 "rHatSums" "[D" (.ref aH) := P39.ext E9
  have f51 : Fld Z h14 o_ cn1 "rHatSums" "[D" (.ref aH) := f50.keep K14 (ninS ne19 nin0)
  have f52 : Fld Z h47 o_ cn1 "rHatSums" "[D" (.ref aH) := f51.other W47 (Or.inl P53)
  obtain ⟨T53, X53, e53, st53⟩ := getF X47 hx hZ hown (host := "") (Or.inl (own_w hw 16 rfl)) Via.refl e47 f52 (g := (mkF m 184 #[lvR o_, lvR am, lvR ad, lvJ (((0 : Int64) + (x0_.toInt64)) + (x1_.toInt64)), .second, lvJ (((0 : Int64) + (y0_.toInt64)) + (y1_.toInt64)), .second, lvR b9, lvJ ((0 : Int64) + (x0_.toInt64)), .second, lvJ ((0 : Int64) + (hi_.toInt64)), .second, lvI ((0 : Int32) + c0_), lvJ ((0 : Int64) + (y0_.toInt64)), .second, lvI (0 : Int32)] [(.ref o_)])) rfl rfl (hb hby d7_184)
  have f54 : Arv Z h9 aH kaH .double (2 : Int32) [(.double rh0), (.double rh1)] (.double (0 : UInt64)) := P40.ext E9
  have ne56 : aH ≠ b9 := Nat.ne_of_lt (Nat.lt_of_lt_of_le P40.lt (Nat.le_of_eq g9.symm))
  have f55 : Arv Z h14 aH kaH .double (2 : Int32) [(.double rh0), (.double rh1)] (.double (0 : UInt64)) := f54.keep K14 (ninS ne56 nin0)
  have f57 : Arv Z h47 aH kaH .double (2 : Int32) [(.double rh0), (.double rh1)] (.double (0 : UInt64)) := f55.other W47 P54
  obtain ⟨c58, r58, q58, s58, z58, y58, G58⟩ := id f57
  have hin58 : ¬ ((0 : Int32) < 0 ∨ c58.slots.size ≤ ((0 : Int32)).toNatClampNeg) := inb_of s58 ⟨by decide, by decide⟩
  have hat58 : c58.slots[((0 : Int32)).toNatClampNeg]? = some (.double rh0) := Has.at y58 hin58 rfl
  have pre59 : ∀ t, own_S p e below m T53 197 #[lvR o_, lvR am, lvR ad, lvJ (((0 : Int64) + (x0_.toInt64)) + (x1_.toInt64)), .second, lvJ (((0 : Int64) + (y0_.toInt64)) + (y1_.toInt64)), .second, lvR b9, lvJ ((0 : Int64) + (x0_.toInt64)), .second, lvJ ((0 : Int64) + (hi_.toInt64)), .second, lvI ((0 : Int32) + c0_), lvJ ((0 : Int64) + (y0_.toInt64)), .second, lvI (0 : Int32)] [(.double (FP.ddiv (FP.l2d ((0 : Int64) + (x0_.toInt64))) (FP.l2d (((0 : Int64) + (x0_.toInt64)) + (x1_.toInt64))))), (.double rh0), (.int (0 : Int32)), (.ref aH)] t → G t := by
    intro t kt
    refine pre46 t ?_
    show own_S p e below m T40 181 #[lvR o_, lvR am, lvR ad, lvJ (((0 : Int64) + (x0_.toInt64)) + (x1_.toInt64)), .second, lvJ (((0 : Int64) + (y0_.toInt64)) + (y1_.toInt64)), .second, lvR b9, lvJ ((0 : Int64) + (x0_.toInt64)), .second, lvJ ((0 : Int64) + (hi_.toInt64)), .second, lvI ((0 : Int32) + c0_), lvJ ((0 : Int64) + (y0_.toInt64)), .second, lvI (0 : Int32)] [(.double qr0), (.double rs0), (.int (0 : Int32)), (.ref aR)] _
    refine XS.daddS X40.here hx rfl (hb hby d7_181) rfl mqr0 rfl ?_
    show own_S p e below m T40 182 #[lvR o_, lvR am, lvR ad, lvJ (((0 : Int64) + (x0_.toInt64)) + (x1_.toInt64)), .second, lvJ (((0 : Int64) + (y0_.toInt64)) + (y1_.toInt64)), .second, lvR b9, lvJ ((0 : Int64) + (x0_.toInt64)), .second, lvJ ((0 : Int64) + (hi_.toInt64)), .second, lvI ((0 : Int32) + c0_), lvJ ((0 : Int64) + (y0_.toInt64)), .second, lvI (0 : Int32)] [(.double (FP.dadd rs0 qr0)), (.int (0 : Int32)), (.ref aR)] _
    refine st47 _ ?_
    refine XS.aloadN X47.here hx rfl (hb hby d7_183) rfl rfl ?_
    show own_S p e below m T47 184 #[lvR o_, lvR am, lvR ad, lvJ (((0 : Int64) + (x0_.toInt64)) + (x1_.toInt64)), .second, lvJ (((0 : Int64) + (y0_.toInt64)) + (y1_.toInt64)), .second, lvR b9, lvJ ((0 : Int64) + (x0_.toInt64)), .second, lvJ ((0 : Int64) + (hi_.toInt64)), .second, lvI ((0 : Int32) + c0_), lvJ ((0 : Int64) + (y0_.toInt64)), .second, lvI (0 : Int32)] [(.ref o_)] _
    refine st53 _ ?_
    refine XS.iload X53.here hx rfl (hb hby d7_187) rfl ?_
    refine XT.dup2 X53.here hx rfl (hb hby d7_189) rfl rfl rfl ?_
    show own_S p e below m T53 190 #[lvR o_, lvR am, lvR ad, lvJ (((0 : Int64) + (x0_.toInt64)) + (x1_.toInt64)), .second, lvJ (((0 : Int64) + (y0_.toInt64)) + (y1_.toInt64)), .second, lvR b9, lvJ ((0 : Int64) + (x0_.toInt64)), .second, lvJ ((0 : Int64) + (hi_.toInt64)), .second, lvI ((0 : Int32) + c0_), lvJ ((0 : Int64) + (y0_.toInt64)), .second, lvI (0 : Int32)] [(.int (0 : Int32)), (.ref aH), (.int (0 : Int32)), (.ref aH)] _
    refine X53.daload hx (j := (0 : Int32)) (v := (.double rh0)) (by rw [e53]; exact r58.1) (State.isArrayOf_alike hZ.alike r58.2.1) r58.2.2 hin58 hat58 (g := (mkF m 190 #[lvR o_, lvR am, lvR ad, lvJ (((0 : Int64) + (x0_.toInt64)) + (x1_.toInt64)), .second, lvJ (((0 : Int64) + (y0_.toInt64)) + (y1_.toInt64)), .second, lvR b9, lvJ ((0 : Int64) + (x0_.toInt64)), .second, lvJ ((0 : Int64) + (hi_.toInt64)), .second, lvI ((0 : Int32) + c0_), lvJ ((0 : Int64) + (y0_.toInt64)), .second, lvI (0 : Int32)] [(.int (0 : Int32)), (.ref aH), (.int (0 : Int32)), (.ref aH)])) rfl rfl (hb hby d7_190) _ ?_
    refine XS.lload X53.here hx rfl (hb hby d7_191) rfl ?_
    refine XS.l2dS X53.here hx rfl (hb hby d7_193) rfl rfl ?_
    refine XS.lloadN X53.here hx rfl (hb hby d7_194) rfl ?_
    refine XS.l2dS X53.here hx rfl (hb hby d7_195) rfl rfl ?_
    refine XS.ddivS X53.here hx rfl (hb hby d7_196) rfl nqh0 rfl ?_
    exact kt
  have pre60 : ∀ t, own_S p e below m T53 197 #[lvR o_, lvR am, lvR ad, lvJ (((0 : Int64) + (x0_.toInt64)) + (x1_.toInt64)), .second, lvJ (((0 : Int64) + (y0_.toInt64)) + (y1_.toInt64)), .second, lvR b9, lvJ ((0 : Int64) + (x0_.toInt64)), .second, lvJ ((0 : Int64) + (hi_.toInt64)), .second, lvI ((0 : Int32) + c0_), lvJ ((0 : Int64) + (y0_.toInt64)), .second, lvI (0 : Int32)] [(.double qh0), (.double rh0), (.int (0 : Int32)), (.ref aH)] t → G t := fun t kt => pre59 t (by rw [eqh0]; exact kt)
  obtain ⟨c61, r61, q61, s61, z61, y61, G61⟩ := id f57
  have hin61 : ¬ ((0 : Int32) < 0 ∨ c61.slots.size ≤ ((0 : Int32)).toNatClampNeg) := inb_of s61 ⟨by decide, by decide⟩
  obtain ⟨T61, h61, X61, e61, W61, st61⟩ := stD X53 hx hZ e53 r61 (j := (0 : Int32)) hin61 (g := (mkF m 198 #[lvR o_, lvR am, lvR ad, lvJ (((0 : Int64) + (x0_.toInt64)) + (x1_.toInt64)), .second, lvJ (((0 : Int64) + (y0_.toInt64)) + (y1_.toInt64)), .second, lvR b9, lvJ ((0 : Int64) + (x0_.toInt64)), .second, lvJ ((0 : Int64) + (hi_.toInt64)), .second, lvI ((0 : Int32) + c0_), lvJ ((0 : Int64) + (y0_.toInt64)), .second, lvI (0 : Int32)] [(.double (FP.dadd rh0 qh0)), (.int (0 : Int32)), (.ref aH)])) rfl rfl (hb hby d7_198)
  have N62 := Fr.snoc X61 N48 P55
  have f63 : Arv Z h61 aH kaH .double (2 : Int32) [(.double (FP.dadd rh0 qh0)), (.double rh1)] (.double (0 : UInt64)) := Arv.set r61 q61 s61 z61 y61 G61 rfl W61 0 rfl (Nat.le_of_ble_eq_true rfl)
  have f64 : Fld Z h9 o_ cn1 "pSums" "[D" (.ref aP) := P41.ext E9
  have f65 : Fld Z h14 o_ cn1 "pSums" "[D" (.ref aP) := f64.keep K14 (ninS ne19 nin0)
  have f66 : Fld Z h47 o_ cn1 "pSums" "[D" (.ref aP) := f65.other W47 (Or.inl P53)
  have f67 : Fld Z h61 o_ cn1 "pSums" "[D" (.ref aP) := f66.other W61 (Or.inl P56)
  obtain ⟨T68, X68, e68, st68⟩ := getF X61 hx hZ hown (host := "") (Or.inl (own_w hw 18 rfl)) Via.refl e61 f67 (g := (mkF m 200 #[lvR o_, lvR am, lvR ad, lvJ (((0 : Int64) + (x0_.toInt64)) + (x1_.toInt64)), .second, lvJ (((0 : Int64) + (y0_.toInt64)) + (y1_.toInt64)), .second, lvR b9, lvJ ((0 : Int64) + (x0_.toInt64)), .second, lvJ ((0 : Int64) + (hi_.toInt64)), .second, lvI ((0 : Int32) + c0_), lvJ ((0 : Int64) + (y0_.toInt64)), .second, lvI (0 : Int32)] [(.ref o_)])) rfl rfl (hb hby d7_200)
  have f69 : Arv Z h9 aP kaP .double (2 : Int32) [(.double ps0), (.double ps1)] (.double (0 : UInt64)) := P42.ext E9
  have ne71 : aP ≠ b9 := Nat.ne_of_lt (Nat.lt_of_lt_of_le P42.lt (Nat.le_of_eq g9.symm))
  have f70 : Arv Z h14 aP kaP .double (2 : Int32) [(.double ps0), (.double ps1)] (.double (0 : UInt64)) := f69.keep K14 (ninS ne71 nin0)
  have f72 : Arv Z h47 aP kaP .double (2 : Int32) [(.double ps0), (.double ps1)] (.double (0 : UInt64)) := f70.other W47 P57
  have f73 : Arv Z h61 aP kaP .double (2 : Int32) [(.double ps0), (.double ps1)] (.double (0 : UInt64)) := f72.other W61 P58
  obtain ⟨c74, r74, q74, s74, z74, y74, G74⟩ := id f73
  have hin74 : ¬ ((0 : Int32) < 0 ∨ c74.slots.size ≤ ((0 : Int32)).toNatClampNeg) := inb_of s74 ⟨by decide, by decide⟩
  have hat74 : c74.slots[((0 : Int32)).toNatClampNeg]? = some (.double ps0) := Has.at y74 hin74 rfl
  have pre75 : ∀ t, own_S p e below m T68 216 #[lvR o_, lvR am, lvR ad, lvJ (((0 : Int64) + (x0_.toInt64)) + (x1_.toInt64)), .second, lvJ (((0 : Int64) + (y0_.toInt64)) + (y1_.toInt64)), .second, lvR b9, lvJ ((0 : Int64) + (x0_.toInt64)), .second, lvJ ((0 : Int64) + (hi_.toInt64)), .second, lvI ((0 : Int32) + c0_), lvJ ((0 : Int64) + (y0_.toInt64)), .second, lvI (0 : Int32)] [(.double (FP.ddiv (FP.i2d ((0 : Int32) + c0_)) (FP.i2d (1 : Int32)))), (.double ps0), (.int (0 : Int32)), (.ref aP)] t → G t := by
    intro t kt
    refine pre60 t ?_
    show own_S p e below m T53 197 #[lvR o_, lvR am, lvR ad, lvJ (((0 : Int64) + (x0_.toInt64)) + (x1_.toInt64)), .second, lvJ (((0 : Int64) + (y0_.toInt64)) + (y1_.toInt64)), .second, lvR b9, lvJ ((0 : Int64) + (x0_.toInt64)), .second, lvJ ((0 : Int64) + (hi_.toInt64)), .second, lvI ((0 : Int32) + c0_), lvJ ((0 : Int64) + (y0_.toInt64)), .second, lvI (0 : Int32)] [(.double qh0), (.double rh0), (.int (0 : Int32)), (.ref aH)] _
    refine XS.daddS X53.here hx rfl (hb hby d7_197) rfl mqh0 rfl ?_
    show own_S p e below m T53 198 #[lvR o_, lvR am, lvR ad, lvJ (((0 : Int64) + (x0_.toInt64)) + (x1_.toInt64)), .second, lvJ (((0 : Int64) + (y0_.toInt64)) + (y1_.toInt64)), .second, lvR b9, lvJ ((0 : Int64) + (x0_.toInt64)), .second, lvJ ((0 : Int64) + (hi_.toInt64)), .second, lvI ((0 : Int32) + c0_), lvJ ((0 : Int64) + (y0_.toInt64)), .second, lvI (0 : Int32)] [(.double (FP.dadd rh0 qh0)), (.int (0 : Int32)), (.ref aH)] _
    refine st61 _ ?_
    refine XS.aloadN X61.here hx rfl (hb hby d7_199) rfl rfl ?_
    show own_S p e below m T61 200 #[lvR o_, lvR am, lvR ad, lvJ (((0 : Int64) + (x0_.toInt64)) + (x1_.toInt64)), .second, lvJ (((0 : Int64) + (y0_.toInt64)) + (y1_.toInt64)), .second, lvR b9, lvJ ((0 : Int64) + (x0_.toInt64)), .second, lvJ ((0 : Int64) + (hi_.toInt64)), .second, lvI ((0 : Int32) + c0_), lvJ ((0 : Int64) + (y0_.toInt64)), .second, lvI (0 : Int32)] [(.ref o_)] _
    refine st68 _ ?_
    refine XS.iload X68.here hx rfl (hb hby d7_203) rfl ?_
    refine XT.dup2 X68.here hx rfl (hb hby d7_205) rfl rfl rfl ?_
    show own_S p e below m T68 206 #[lvR o_, lvR am, lvR ad, lvJ (((0 : Int64) + (x0_.toInt64)) + (x1_.toInt64)), .second, lvJ (((0 : Int64) + (y0_.toInt64)) + (y1_.toInt64)), .second, lvR b9, lvJ ((0 : Int64) + (x0_.toInt64)), .second, lvJ ((0 : Int64) + (hi_.toInt64)), .second, lvI ((0 : Int32) + c0_), lvJ ((0 : Int64) + (y0_.toInt64)), .second, lvI (0 : Int32)] [(.int (0 : Int32)), (.ref aP), (.int (0 : Int32)), (.ref aP)] _
    refine X68.daload hx (j := (0 : Int32)) (v := (.double ps0)) (by rw [e68]; exact r74.1) (State.isArrayOf_alike hZ.alike r74.2.1) r74.2.2 hin74 hat74 (g := (mkF m 206 #[lvR o_, lvR am, lvR ad, lvJ (((0 : Int64) + (x0_.toInt64)) + (x1_.toInt64)), .second, lvJ (((0 : Int64) + (y0_.toInt64)) + (y1_.toInt64)), .second, lvR b9, lvJ ((0 : Int64) + (x0_.toInt64)), .second, lvJ ((0 : Int64) + (hi_.toInt64)), .second, lvI ((0 : Int32) + c0_), lvJ ((0 : Int64) + (y0_.toInt64)), .second, lvI (0 : Int32)] [(.int (0 : Int32)), (.ref aP), (.int (0 : Int32)), (.ref aP)])) rfl rfl (hb hby d7_206) _ ?_
    refine XS.iload X68.here hx rfl (hb hby d7_207) rfl ?_
    refine XS.i2dS X68.here hx rfl (hb hby d7_209) rfl rfl ?_
    refine XS.iload X68.here hx rfl (hb hby d7_210) rfl ?_
    refine XS.iconst X68.here hx rfl (hb hby d7_212) ?_
    refine XS.iadd X68.here hx rfl (hb hby d7_213) rfl ?_
    refine XS.i2dS X68.here hx rfl (hb hby d7_214) rfl rfl ?_
    refine XS.ddivS X68.here hx rfl (hb hby d7_215) rfl nqp0 rfl ?_
    exact kt
  have pre76 : ∀ t, own_S p e below m T68 216 #[lvR o_, lvR am, lvR ad, lvJ (((0 : Int64) + (x0_.toInt64)) + (x1_.toInt64)), .second, lvJ (((0 : Int64) + (y0_.toInt64)) + (y1_.toInt64)), .second, lvR b9, lvJ ((0 : Int64) + (x0_.toInt64)), .second, lvJ ((0 : Int64) + (hi_.toInt64)), .second, lvI ((0 : Int32) + c0_), lvJ ((0 : Int64) + (y0_.toInt64)), .second, lvI (0 : Int32)] [(.double qp0), (.double ps0), (.int (0 : Int32)), (.ref aP)] t → G t := fun t kt => pre75 t (by rw [eqp0]; exact kt)
  obtain ⟨c77, r77, q77, s77, z77, y77, G77⟩ := id f73
  have hin77 : ¬ ((0 : Int32) < 0 ∨ c77.slots.size ≤ ((0 : Int32)).toNatClampNeg) := inb_of s77 ⟨by decide, by decide⟩
  obtain ⟨T77, h77, X77, e77, W77, st77⟩ := stD X68 hx hZ e68 r77 (j := (0 : Int32)) hin77 (g := (mkF m 217 #[lvR o_, lvR am, lvR ad, lvJ (((0 : Int64) + (x0_.toInt64)) + (x1_.toInt64)), .second, lvJ (((0 : Int64) + (y0_.toInt64)) + (y1_.toInt64)), .second, lvR b9, lvJ ((0 : Int64) + (x0_.toInt64)), .second, lvJ ((0 : Int64) + (hi_.toInt64)), .second, lvI ((0 : Int32) + c0_), lvJ ((0 : Int64) + (y0_.toInt64)), .second, lvI (0 : Int32)] [(.double (FP.dadd ps0 qp0)), (.int (0 : Int32)), (.ref aP)])) rfl rfl (hb hby d7_217)
  have N78 := Fr.snoc X77 N62 P59
  have f79 : Arv Z h77 aP kaP .double (2 : Int32) [(.double (FP.dadd ps0 qp0)), (.double ps1)] (.double (0 : UInt64)) := Arv.set r77 q77 s77 z77 y77 G77 rfl W77 0 rfl (Nat.le_of_ble_eq_true rfl)
  have f80 : Fld Z h9 o_ cn1 "cpSums" "[D" (.ref aC) := P43.ext E9
  have f81 : Fld Z h14 o_ cn1 "cpSums" "[D" (.ref aC) := f80.keep K14 (ninS ne19 nin0)
  have f82 : Fld Z h47 o_ cn1 "cpSums" "[D" (.ref aC) := f81.other W47 (Or.inl P53)
  have f83 : Fld Z h61 o_ cn1 "cpSums" "[D" (.ref aC) := f82.other W61 (Or.inl P56)
  have f84 : Fld Z h77 o_ cn1 "cpSums" "[D" (.ref aC) := f83.other W77 (Or.inl P60)
  obtain ⟨T85, X85, e85, st85⟩ := getF X77 hx hZ hown (host := "") (Or.inl (own_w hw 20 rfl)) Via.refl e77 f84 (g := (mkF m 219 #[lvR o_, lvR am, lvR ad, lvJ (((0 : Int64) + (x0_.toInt64)) + (x1_.toInt64)), .second, lvJ (((0 : Int64) + (y0_.toInt64)) + (y1_.toInt64)), .second, lvR b9, lvJ ((0 : Int64) + (x0_.toInt64)), .second, lvJ ((0 : Int64) + (hi_.toInt64)), .second, lvI ((0 : Int32) + c0_), lvJ ((0 : Int64) + (y0_.toInt64)), .second, lvI (0 : Int32)] [(.ref o_)])) rfl rfl (hb hby d7_219)
  have f86 : Arv Z h9 aC kaC .double (2 : Int32) [(.double cs0), (.double cs1)] (.double (0 : UInt64)) := P44.ext E9
  have ne88 : aC ≠ b9 := Nat.ne_of_lt (Nat.lt_of_lt_of_le P44.lt (Nat.le_of_eq g9.symm))
  have f87 : Arv Z h14 aC kaC .double (2 : Int32) [(.double cs0), (.double cs1)] (.double (0 : UInt64)) := f86.keep K14 (ninS ne88 nin0)
  have f89 : Arv Z h47 aC kaC .double (2 : Int32) [(.double cs0), (.double cs1)] (.double (0 : UInt64)) := f87.other W47 P61
  have f90 : Arv Z h61 aC kaC .double (2 : Int32) [(.double cs0), (.double cs1)] (.double (0 : UInt64)) := f89.other W61 P62
  have f91 : Arv Z h77 aC kaC .double (2 : Int32) [(.double cs0), (.double cs1)] (.double (0 : UInt64)) := f90.other W77 P63
  obtain ⟨c92, r92, q92, s92, z92, y92, G92⟩ := id f91
  have hin92 : ¬ ((0 : Int32) < 0 ∨ c92.slots.size ≤ ((0 : Int32)).toNatClampNeg) := inb_of s92 ⟨by decide, by decide⟩
  have hat92 : c92.slots[((0 : Int32)).toNatClampNeg]? = some (.double cs0) := Has.at y92 hin92 rfl
  have pre93 : ∀ t, own_S p e below m T85 233 #[lvR o_, lvR am, lvR ad, lvJ (((0 : Int64) + (x0_.toInt64)) + (x1_.toInt64)), .second, lvJ (((0 : Int64) + (y0_.toInt64)) + (y1_.toInt64)), .second, lvR b9, lvJ ((0 : Int64) + (x0_.toInt64)), .second, lvJ ((0 : Int64) + (hi_.toInt64)), .second, lvI ((0 : Int32) + c0_), lvJ ((0 : Int64) + (y0_.toInt64)), .second, lvI (0 : Int32)] [(.double (FP.ddiv (FP.l2d ((0 : Int64) + (y0_.toInt64))) (FP.l2d (((0 : Int64) + (y0_.toInt64)) + (y1_.toInt64))))), (.double cs0), (.int (0 : Int32)), (.ref aC)] t → G t := by
    intro t kt
    refine pre76 t ?_
    show own_S p e below m T68 216 #[lvR o_, lvR am, lvR ad, lvJ (((0 : Int64) + (x0_.toInt64)) + (x1_.toInt64)), .second, lvJ (((0 : Int64) + (y0_.toInt64)) + (y1_.toInt64)), .second, lvR b9, lvJ ((0 : Int64) + (x0_.toInt64)), .second, lvJ ((0 : Int64) + (hi_.toInt64)), .second, lvI ((0 : Int32) + c0_), lvJ ((0 : Int64) + (y0_.toInt64)), .second, lvI (0 : Int32)] [(.double qp0), (.double ps0), (.int (0 : Int32)), (.ref aP)] _
    refine XS.daddS X68.here hx rfl (hb hby d7_216) rfl mqp0 rfl ?_
    show own_S p e below m T68 217 #[lvR o_, lvR am, lvR ad, lvJ (((0 : Int64) + (x0_.toInt64)) + (x1_.toInt64)), .second, lvJ (((0 : Int64) + (y0_.toInt64)) + (y1_.toInt64)), .second, lvR b9, lvJ ((0 : Int64) + (x0_.toInt64)), .second, lvJ ((0 : Int64) + (hi_.toInt64)), .second, lvI ((0 : Int32) + c0_), lvJ ((0 : Int64) + (y0_.toInt64)), .second, lvI (0 : Int32)] [(.double (FP.dadd ps0 qp0)), (.int (0 : Int32)), (.ref aP)] _
    refine st77 _ ?_
    refine XS.aloadN X77.here hx rfl (hb hby d7_218) rfl rfl ?_
    show own_S p e below m T77 219 #[lvR o_, lvR am, lvR ad, lvJ (((0 : Int64) + (x0_.toInt64)) + (x1_.toInt64)), .second, lvJ (((0 : Int64) + (y0_.toInt64)) + (y1_.toInt64)), .second, lvR b9, lvJ ((0 : Int64) + (x0_.toInt64)), .second, lvJ ((0 : Int64) + (hi_.toInt64)), .second, lvI ((0 : Int32) + c0_), lvJ ((0 : Int64) + (y0_.toInt64)), .second, lvI (0 : Int32)] [(.ref o_)] _
    refine st85 _ ?_
    refine XS.iload X85.here hx rfl (hb hby d7_222) rfl ?_
    refine XT.dup2 X85.here hx rfl (hb hby d7_224) rfl rfl rfl ?_
    show own_S p e below m T85 225 #[lvR o_, lvR am, lvR ad, lvJ (((0 : Int64) + (x0_.toInt64)) + (x1_.toInt64)), .second, lvJ (((0 : Int64) + (y0_.toInt64)) + (y1_.toInt64)), .second, lvR b9, lvJ ((0 : Int64) + (x0_.toInt64)), .second, lvJ ((0 : Int64) + (hi_.toInt64)), .second, lvI ((0 : Int32) + c0_), lvJ ((0 : Int64) + (y0_.toInt64)), .second, lvI (0 : Int32)] [(.int (0 : Int32)), (.ref aC), (.int (0 : Int32)), (.ref aC)] _
    refine X85.daload hx (j := (0 : Int32)) (v := (.double cs0)) (by rw [e85]; exact r92.1) (State.isArrayOf_alike hZ.alike r92.2.1) r92.2.2 hin92 hat92 (g := (mkF m 225 #[lvR o_, lvR am, lvR ad, lvJ (((0 : Int64) + (x0_.toInt64)) + (x1_.toInt64)), .second, lvJ (((0 : Int64) + (y0_.toInt64)) + (y1_.toInt64)), .second, lvR b9, lvJ ((0 : Int64) + (x0_.toInt64)), .second, lvJ ((0 : Int64) + (hi_.toInt64)), .second, lvI ((0 : Int32) + c0_), lvJ ((0 : Int64) + (y0_.toInt64)), .second, lvI (0 : Int32)] [(.int (0 : Int32)), (.ref aC), (.int (0 : Int32)), (.ref aC)])) rfl rfl (hb hby d7_225) _ ?_
    refine XS.lload X85.here hx rfl (hb hby d7_226) rfl ?_
    refine XS.l2dS X85.here hx rfl (hb hby d7_228) rfl rfl ?_
    refine XS.lload X85.here hx rfl (hb hby d7_229) rfl ?_
    refine XS.l2dS X85.here hx rfl (hb hby d7_231) rfl rfl ?_
    refine XS.ddivS X85.here hx rfl (hb hby d7_232) rfl nqc0 rfl ?_
    exact kt
  have pre94 : ∀ t, own_S p e below m T85 233 #[lvR o_, lvR am, lvR ad, lvJ (((0 : Int64) + (x0_.toInt64)) + (x1_.toInt64)), .second, lvJ (((0 : Int64) + (y0_.toInt64)) + (y1_.toInt64)), .second, lvR b9, lvJ ((0 : Int64) + (x0_.toInt64)), .second, lvJ ((0 : Int64) + (hi_.toInt64)), .second, lvI ((0 : Int32) + c0_), lvJ ((0 : Int64) + (y0_.toInt64)), .second, lvI (0 : Int32)] [(.double qc0), (.double cs0), (.int (0 : Int32)), (.ref aC)] t → G t := fun t kt => pre93 t (by rw [eqc0]; exact kt)
  obtain ⟨c95, r95, q95, s95, z95, y95, G95⟩ := id f91
  have hin95 : ¬ ((0 : Int32) < 0 ∨ c95.slots.size ≤ ((0 : Int32)).toNatClampNeg) := inb_of s95 ⟨by decide, by decide⟩
  obtain ⟨T95, h95, X95, e95, W95, st95⟩ := stD X85 hx hZ e85 r95 (j := (0 : Int32)) hin95 (g := (mkF m 234 #[lvR o_, lvR am, lvR ad, lvJ (((0 : Int64) + (x0_.toInt64)) + (x1_.toInt64)), .second, lvJ (((0 : Int64) + (y0_.toInt64)) + (y1_.toInt64)), .second, lvR b9, lvJ ((0 : Int64) + (x0_.toInt64)), .second, lvJ ((0 : Int64) + (hi_.toInt64)), .second, lvI ((0 : Int32) + c0_), lvJ ((0 : Int64) + (y0_.toInt64)), .second, lvI (0 : Int32)] [(.double (FP.dadd cs0 qc0)), (.int (0 : Int32)), (.ref aC)])) rfl rfl (hb hby d7_234)
  have N96 := Fr.snoc X95 N78 P64
  have f97 : Arv Z h95 aC kaC .double (2 : Int32) [(.double (FP.dadd cs0 qc0)), (.double cs1)] (.double (0 : UInt64)) := Arv.set r95 q95 s95 z95 y95 G95 rfl W95 0 rfl (Nat.le_of_ble_eq_true rfl)
  have f98 : Fld Z h9 o_ cn1 "found" "[J" (.ref aF) := P45.ext E9
  have f99 : Fld Z h14 o_ cn1 "found" "[J" (.ref aF) := f98.keep K14 (ninS ne19 nin0)
  have f100 : Fld Z h47 o_ cn1 "found" "[J" (.ref aF) := f99.other W47 (Or.inl P53)
  have f101 : Fld Z h61 o_ cn1 "found" "[J" (.ref aF) := f100.other W61 (Or.inl P56)
  have f102 : Fld Z h77 o_ cn1 "found" "[J" (.ref aF) := f101.other W77 (Or.inl P60)
  have f103 : Fld Z h95 o_ cn1 "found" "[J" (.ref aF) := f102.other W95 (Or.inl P65)
  obtain ⟨T104, X104, e104, st104⟩ := getF X95 hx hZ hown (host := "") (Or.inl (own_w hw 23 rfl)) Via.refl e95 f103 (g := (mkF m 236 #[lvR o_, lvR am, lvR ad, lvJ (((0 : Int64) + (x0_.toInt64)) + (x1_.toInt64)), .second, lvJ (((0 : Int64) + (y0_.toInt64)) + (y1_.toInt64)), .second, lvR b9, lvJ ((0 : Int64) + (x0_.toInt64)), .second, lvJ ((0 : Int64) + (hi_.toInt64)), .second, lvI ((0 : Int32) + c0_), lvJ ((0 : Int64) + (y0_.toInt64)), .second, lvI (0 : Int32)] [(.ref o_)])) rfl rfl (hb hby d7_236)
  have f105 : Arv Z h9 aF kaF .long (2 : Int32) [(.long fo0), (.long fo1)] (.long (0 : Int64)) := P46.ext E9
  have ne107 : aF ≠ b9 := Nat.ne_of_lt (Nat.lt_of_lt_of_le P46.lt (Nat.le_of_eq g9.symm))
  have f106 : Arv Z h14 aF kaF .long (2 : Int32) [(.long fo0), (.long fo1)] (.long (0 : Int64)) := f105.keep K14 (ninS ne107 nin0)
  have f108 : Arv Z h47 aF kaF .long (2 : Int32) [(.long fo0), (.long fo1)] (.long (0 : Int64)) := f106.other W47 P66
  have f109 : Arv Z h61 aF kaF .long (2 : Int32) [(.long fo0), (.long fo1)] (.long (0 : Int64)) := f108.other W61 P67
  have f110 : Arv Z h77 aF kaF .long (2 : Int32) [(.long fo0), (.long fo1)] (.long (0 : Int64)) := f109.other W77 P68
  have f111 : Arv Z h95 aF kaF .long (2 : Int32) [(.long fo0), (.long fo1)] (.long (0 : Int64)) := f110.other W95 P69
  obtain ⟨c112, r112, q112, s112, z112, y112, G112⟩ := id f111
  have hin112 : ¬ ((0 : Int32) < 0 ∨ c112.slots.size ≤ ((0 : Int32)).toNatClampNeg) := inb_of s112 ⟨by decide, by decide⟩
  have hat112 : c112.slots[((0 : Int32)).toNatClampNeg]? = some (.long fo0) := Has.at y112 hin112 rfl
  obtain ⟨c113, r113, q113, s113, z113, y113, G113⟩ := id f111
  have hin113 : ¬ ((0 : Int32) < 0 ∨ c113.slots.size ≤ ((0 : Int32)).toNatClampNeg) := inb_of s113 ⟨by decide, by decide⟩
  obtain ⟨T113, h113, X113, e113, W113, st113⟩ := stJ X104 hx hZ e104 r113 (j := (0 : Int32)) hin113 (g := (mkF m 246 #[lvR o_, lvR am, lvR ad, lvJ (((0 : Int64) + (x0_.toInt64)) + (x1_.toInt64)), .second, lvJ (((0 : Int64) + (y0_.toInt64)) + (y1_.toInt64)), .second, lvR b9, lvJ ((0 : Int64) + (x0_.toInt64)), .second, lvJ ((0 : Int64) + (hi_.toInt64)), .second, lvI ((0 : Int32) + c0_), lvJ ((0 : Int64) + (y0_.toInt64)), .second, lvI (0 : Int32)] [(.long (fo0 + ((0 : Int64) + (x0_.toInt64)))), (.int (0 : Int32)), (.ref aF)])) rfl rfl (hb hby d7_246)
  have N114 := Fr.snoc X113 N96 P70
  have f115 : Arv Z h113 aF kaF .long (2 : Int32) [(.long (fo0 + ((0 : Int64) + (x0_.toInt64)))), (.long fo1)] (.long (0 : Int64)) := Arv.set r113 q113 s113 z113 y113 G113 rfl W113 0 rfl (Nat.le_of_ble_eq_true rfl)
  have f116 : Fld Z h9 o_ cn1 "best" "[J" (.ref aB) := P47.ext E9
  have f117 : Fld Z h14 o_ cn1 "best" "[J" (.ref aB) := f116.keep K14 (ninS ne19 nin0)
  have f118 : Fld Z h47 o_ cn1 "best" "[J" (.ref aB) := f117.other W47 (Or.inl P53)
  have f119 : Fld Z h61 o_ cn1 "best" "[J" (.ref aB) := f118.other W61 (Or.inl P56)
  have f120 : Fld Z h77 o_ cn1 "best" "[J" (.ref aB) := f119.other W77 (Or.inl P60)
  have f121 : Fld Z h95 o_ cn1 "best" "[J" (.ref aB) := f120.other W95 (Or.inl P65)
  have f122 : Fld Z h113 o_ cn1 "best" "[J" (.ref aB) := f121.other W113 (Or.inl P71)
  obtain ⟨T123, X123, e123, st123⟩ := getF X113 hx hZ hown (host := "") (Or.inl (own_w hw 25 rfl)) Via.refl e113 f122 (g := (mkF m 248 #[lvR o_, lvR am, lvR ad, lvJ (((0 : Int64) + (x0_.toInt64)) + (x1_.toInt64)), .second, lvJ (((0 : Int64) + (y0_.toInt64)) + (y1_.toInt64)), .second, lvR b9, lvJ ((0 : Int64) + (x0_.toInt64)), .second, lvJ ((0 : Int64) + (hi_.toInt64)), .second, lvI ((0 : Int32) + c0_), lvJ ((0 : Int64) + (y0_.toInt64)), .second, lvI (0 : Int32)] [(.ref o_)])) rfl rfl (hb hby d7_248)
  have f124 : Arv Z h9 aB kaB .long (2 : Int32) [(.long be0), (.long be1)] (.long (0 : Int64)) := P48.ext E9
  have ne126 : aB ≠ b9 := Nat.ne_of_lt (Nat.lt_of_lt_of_le P48.lt (Nat.le_of_eq g9.symm))
  have f125 : Arv Z h14 aB kaB .long (2 : Int32) [(.long be0), (.long be1)] (.long (0 : Int64)) := f124.keep K14 (ninS ne126 nin0)
  have f127 : Arv Z h47 aB kaB .long (2 : Int32) [(.long be0), (.long be1)] (.long (0 : Int64)) := f125.other W47 P72
  have f128 : Arv Z h61 aB kaB .long (2 : Int32) [(.long be0), (.long be1)] (.long (0 : Int64)) := f127.other W61 P73
  have f129 : Arv Z h77 aB kaB .long (2 : Int32) [(.long be0), (.long be1)] (.long (0 : Int64)) := f128.other W77 P74
  have f130 : Arv Z h95 aB kaB .long (2 : Int32) [(.long be0), (.long be1)] (.long (0 : Int64)) := f129.other W95 P75
  have f131 : Arv Z h113 aB kaB .long (2 : Int32) [(.long be0), (.long be1)] (.long (0 : Int64)) := f130.other W113 P76
  obtain ⟨c132, r132, q132, s132, z132, y132, G132⟩ := id f131
  have hin132 : ¬ ((0 : Int32) < 0 ∨ c132.slots.size ≤ ((0 : Int32)).toNatClampNeg) := inb_of s132 ⟨by decide, by decide⟩
  have hat132 : c132.slots[((0 : Int32)).toNatClampNeg]? = some (.long be0) := Has.at y132 hin132 rfl
  obtain ⟨c133, r133, q133, s133, z133, y133, G133⟩ := id f131
  have hin133 : ¬ ((0 : Int32) < 0 ∨ c133.slots.size ≤ ((0 : Int32)).toNatClampNeg) := inb_of s133 ⟨by decide, by decide⟩
  obtain ⟨T133, h133, X133, e133, W133, st133⟩ := stJ X123 hx hZ e123 r133 (j := (0 : Int32)) hin133 (g := (mkF m 258 #[lvR o_, lvR am, lvR ad, lvJ (((0 : Int64) + (x0_.toInt64)) + (x1_.toInt64)), .second, lvJ (((0 : Int64) + (y0_.toInt64)) + (y1_.toInt64)), .second, lvR b9, lvJ ((0 : Int64) + (x0_.toInt64)), .second, lvJ ((0 : Int64) + (hi_.toInt64)), .second, lvI ((0 : Int32) + c0_), lvJ ((0 : Int64) + (y0_.toInt64)), .second, lvI (0 : Int32)] [(.long (be0 + ((0 : Int64) + (hi_.toInt64)))), (.int (0 : Int32)), (.ref aB)])) rfl rfl (hb hby d7_258)
  have N134 := Fr.snoc X133 N114 P77
  have f135 : Arv Z h133 aB kaB .long (2 : Int32) [(.long (be0 + ((0 : Int64) + (hi_.toInt64)))), (.long be1)] (.long (0 : Int64)) := Arv.set r133 q133 s133 z133 y133 G133 rfl W133 0 rfl (Nat.le_of_ble_eq_true rfl)
  have f136 : Fld Z h47 o_ cn1 "collections" "I" (.int (2 : Int32)) := f18.other W47 (Or.inl P53)
  have f137 : Fld Z h61 o_ cn1 "collections" "I" (.int (2 : Int32)) := f136.other W61 (Or.inl P56)
  have f138 : Fld Z h77 o_ cn1 "collections" "I" (.int (2 : Int32)) := f137.other W77 (Or.inl P60)
  have f139 : Fld Z h95 o_ cn1 "collections" "I" (.int (2 : Int32)) := f138.other W95 (Or.inl P65)
  have f140 : Fld Z h113 o_ cn1 "collections" "I" (.int (2 : Int32)) := f139.other W113 (Or.inl P71)
  have f141 : Fld Z h133 o_ cn1 "collections" "I" (.int (2 : Int32)) := f140.other W133 (Or.inl P78)
  obtain ⟨T142, X142, e142, st142⟩ := getF X133 hx hZ hown (host := "") (Or.inl (own_w hw 11 rfl)) Via.refl e133 f141 (g := (mkF m 105 #[lvR o_, lvR am, lvR ad, lvJ (((0 : Int64) + (x0_.toInt64)) + (x1_.toInt64)), .second, lvJ (((0 : Int64) + (y0_.toInt64)) + (y1_.toInt64)), .second, lvR b9, lvJ ((0 : Int64) + (x0_.toInt64)), .second, lvJ ((0 : Int64) + (hi_.toInt64)), .second, lvI ((0 : Int32) + c0_), lvJ ((0 : Int64) + (y0_.toInt64)), .second, lvI (1 : Int32)] [(.ref o_), (.int (1 : Int32))])) rfl rfl (hb hby d7_105)
  have f143 : Arv Z h47 am kam .int (2 : Int32) [(.int x0_), (.int x1_)] (.int (0 : Int32)) := f22.other W47 P79
  have f144 : Arv Z h61 am kam .int (2 : Int32) [(.int x0_), (.int x1_)] (.int (0 : Int32)) := f143.other W61 P80
  have f145 : Arv Z h77 am kam .int (2 : Int32) [(.int x0_), (.int x1_)] (.int (0 : Int32)) := f144.other W77 P81
  have f146 : Arv Z h95 am kam .int (2 : Int32) [(.int x0_), (.int x1_)] (.int (0 : Int32)) := f145.other W95 P82
  have f147 : Arv Z h113 am kam .int (2 : Int32) [(.int x0_), (.int x1_)] (.int (0 : Int32)) := f146.other W113 P83
  have f148 : Arv Z h133 am kam .int (2 : Int32) [(.int x0_), (.int x1_)] (.int (0 : Int32)) := f147.other W133 P84
  obtain ⟨c149, r149, q149, s149, z149, y149, G149⟩ := id f148
  have hin149 : ¬ ((1 : Int32) < 0 ∨ c149.slots.size ≤ ((1 : Int32)).toNatClampNeg) := inb_of s149 ⟨by decide, by decide⟩
  have hat149 : c149.slots[((1 : Int32)).toNatClampNeg]? = some (.int x1_) := Has.at y149 hin149 rfl
  obtain ⟨T150, X150, e150, st150⟩ := getF X142 hx hZ hown (host := "") (Or.inl (own_w hw 11 rfl)) Via.refl e142 f141 (g := (mkF m 126 #[lvR o_, lvR am, lvR ad, lvJ (((0 : Int64) + (x0_.toInt64)) + (x1_.toInt64)), .second, lvJ (((0 : Int64) + (y0_.toInt64)) + (y1_.toInt64)), .second, lvR b9, lvJ (((0 : Int64) + (x0_.toInt64)) + (x1_.toInt64)), .second, lvJ ((0 : Int64) + (hi_.toInt64)), .second, lvI ((0 : Int32) + c0_), lvJ ((0 : Int64) + (y0_.toInt64)), .second, lvI (1 : Int32)] [(.ref o_), (.ref b9), (.long ((0 : Int64) + (hi_.toInt64)))])) rfl rfl (hb hby d7_126)
  have f151 : Arv Z h47 b9 kam .int (2 : Int32) [(.int lo_), (.int hi_)] (.int (0 : Int32)) := g14_0.other W47 (Ne.symm ne43)
  have f152 : Arv Z h61 b9 kam .int (2 : Int32) [(.int lo_), (.int hi_)] (.int (0 : Int32)) := f151.other W61 (Ne.symm ne56)
  have f153 : Arv Z h77 b9 kam .int (2 : Int32) [(.int lo_), (.int hi_)] (.int (0 : Int32)) := f152.other W77 (Ne.symm ne71)
  have f154 : Arv Z h95 b9 kam .int (2 : Int32) [(.int lo_), (.int hi_)] (.int (0 : Int32)) := f153.other W95 (Ne.symm ne88)
  have f155 : Arv Z h113 b9 kam .int (2 : Int32) [(.int lo_), (.int hi_)] (.int (0 : Int32)) := f154.other W113 (Ne.symm ne107)
  have f156 : Arv Z h133 b9 kam .int (2 : Int32) [(.int lo_), (.int hi_)] (.int (0 : Int32)) := f155.other W133 (Ne.symm ne126)
  obtain ⟨c157, r157, q157, s157, z157, y157, G157⟩ := id f156
  have hin157 : ¬ ((0 : Int32) < 0 ∨ c157.slots.size ≤ ((0 : Int32)).toNatClampNeg) := inb_of s157 ⟨by decide, by decide⟩
  have hat157 : c157.slots[((0 : Int32)).toNatClampNeg]? = some (.int lo_) := Has.at y157 hin157 rfl
  obtain ⟨c158, r158, q158, s158, z158, y158, G158⟩ := id f148
  have hin158 : ¬ ((1 : Int32) < 0 ∨ c158.slots.size ≤ ((1 : Int32)).toNatClampNeg) := inb_of s158 ⟨by decide, by decide⟩
  have hat158 : c158.slots[((1 : Int32)).toNatClampNeg]? = some (.int x1_) := Has.at y158 hin158 rfl
  have pre159 : ∀ t, own_S p e below m T150 145 #[lvR o_, lvR am, lvR ad, lvJ (((0 : Int64) + (x0_.toInt64)) + (x1_.toInt64)), .second, lvJ (((0 : Int64) + (y0_.toInt64)) + (y1_.toInt64)), .second, lvR b9, lvJ (((0 : Int64) + (x0_.toInt64)) + (x1_.toInt64)), .second, lvJ (((0 : Int64) + (hi_.toInt64)) + (lo_.toInt64)), .second, lvI ((0 : Int32) + c0_), lvJ ((0 : Int64) + (y0_.toInt64)), .second, lvI (1 : Int32)] [(.int x1_), (.int ((0 : Int32) + c0_))] t → G t := by
    intro t kt
    refine pre94 t ?_
    show own_S p e below m T85 233 #[lvR o_, lvR am, lvR ad, lvJ (((0 : Int64) + (x0_.toInt64)) + (x1_.toInt64)), .second, lvJ (((0 : Int64) + (y0_.toInt64)) + (y1_.toInt64)), .second, lvR b9, lvJ ((0 : Int64) + (x0_.toInt64)), .second, lvJ ((0 : Int64) + (hi_.toInt64)), .second, lvI ((0 : Int32) + c0_), lvJ ((0 : Int64) + (y0_.toInt64)), .second, lvI (0 : Int32)] [(.double qc0), (.double cs0), (.int (0 : Int32)), (.ref aC)] _
    refine XS.daddS X85.here hx rfl (hb hby d7_233) rfl mqc0 rfl ?_
    show own_S p e below m T85 234 #[lvR o_, lvR am, lvR ad, lvJ (((0 : Int64) + (x0_.toInt64)) + (x1_.toInt64)), .second, lvJ (((0 : Int64) + (y0_.toInt64)) + (y1_.toInt64)), .second, lvR b9, lvJ ((0 : Int64) + (x0_.toInt64)), .second, lvJ ((0 : Int64) + (hi_.toInt64)), .second, lvI ((0 : Int32) + c0_), lvJ ((0 : Int64) + (y0_.toInt64)), .second, lvI (0 : Int32)] [(.double (FP.dadd cs0 qc0)), (.int (0 : Int32)), (.ref aC)] _
    refine st95 _ ?_
    refine XS.aloadN X95.here hx rfl (hb hby d7_235) rfl rfl ?_
    show own_S p e below m T95 236 #[lvR o_, lvR am, lvR ad, lvJ (((0 : Int64) + (x0_.toInt64)) + (x1_.toInt64)), .second, lvJ (((0 : Int64) + (y0_.toInt64)) + (y1_.toInt64)), .second, lvR b9, lvJ ((0 : Int64) + (x0_.toInt64)), .second, lvJ ((0 : Int64) + (hi_.toInt64)), .second, lvI ((0 : Int32) + c0_), lvJ ((0 : Int64) + (y0_.toInt64)), .second, lvI (0 : Int32)] [(.ref o_)] _
    refine st104 _ ?_
    refine XS.iload X104.here hx rfl (hb hby d7_239) rfl ?_
    refine XT.dup2 X104.here hx rfl (hb hby d7_241) rfl rfl rfl ?_
    show own_S p e below m T104 242 #[lvR o_, lvR am, lvR ad, lvJ (((0 : Int64) + (x0_.toInt64)) + (x1_.toInt64)), .second, lvJ (((0 : Int64) + (y0_.toInt64)) + (y1_.toInt64)), .second, lvR b9, lvJ ((0 : Int64) + (x0_.toInt64)), .second, lvJ ((0 : Int64) + (hi_.toInt64)), .second, lvI ((0 : Int32) + c0_), lvJ ((0 : Int64) + (y0_.toInt64)), .second, lvI (0 : Int32)] [(.int (0 : Int32)), (.ref aF), (.int (0 : Int32)), (.ref aF)] _
    refine X104.laload hx (j := (0 : Int32)) (v := (.long fo0)) (by rw [e104]; exact r112.1) (State.isArrayOf_alike hZ.alike r112.2.1) r112.2.2 hin112 hat112 (g := (mkF m 242 #[lvR o_, lvR am, lvR ad, lvJ (((0 : Int64) + (x0_.toInt64)) + (x1_.toInt64)), .second, lvJ (((0 : Int64) + (y0_.toInt64)) + (y1_.toInt64)), .second, lvR b9, lvJ ((0 : Int64) + (x0_.toInt64)), .second, lvJ ((0 : Int64) + (hi_.toInt64)), .second, lvI ((0 : Int32) + c0_), lvJ ((0 : Int64) + (y0_.toInt64)), .second, lvI (0 : Int32)] [(.int (0 : Int32)), (.ref aF), (.int (0 : Int32)), (.ref aF)])) rfl rfl (hb hby d7_242) _ ?_
    refine XS.lload X104.here hx rfl (hb hby d7_243) rfl ?_
    refine XS.ladd X104.here hx rfl (hb hby d7_245) rfl ?_
    show own_S p e below m T104 246 #[lvR o_, lvR am, lvR ad, lvJ (((0 : Int64) + (x0_.toInt64)) + (x1_.toInt64)), .second, lvJ (((0 : Int64) + (y0_.toInt64)) + (y1_.toInt64)), .second, lvR b9, lvJ ((0 : Int64) + (x0_.toInt64)), .second, lvJ ((0 : Int64) + (hi_.toInt64)), .second, lvI ((0 : Int32) + c0_), lvJ ((0 : Int64) + (y0_.toInt64)), .second, lvI (0 : Int32)] [(.long (fo0 + ((0 : Int64) + (x0_.toInt64)))), (.int (0 : Int32)), (.ref aF)] _
    refine st113 _ ?_
    refine XS.aloadN X113.here hx rfl (hb hby d7_247) rfl rfl ?_
    show own_S p e below m T113 248 #[lvR o_, lvR am, lvR ad, lvJ (((0 : Int64) + (x0_.toInt64)) + (x1_.toInt64)), .second, lvJ (((0 : Int64) + (y0_.toInt64)) + (y1_.toInt64)), .second, lvR b9, lvJ ((0 : Int64) + (x0_.toInt64)), .second, lvJ ((0 : Int64) + (hi_.toInt64)), .second, lvI ((0 : Int32) + c0_), lvJ ((0 : Int64) + (y0_.toInt64)), .second, lvI (0 : Int32)] [(.ref o_)] _
    refine st123 _ ?_
    refine XS.iload X123.here hx rfl (hb hby d7_251) rfl ?_
    refine XT.dup2 X123.here hx rfl (hb hby d7_253) rfl rfl rfl ?_
    show own_S p e below m T123 254 #[lvR o_, lvR am, lvR ad, lvJ (((0 : Int64) + (x0_.toInt64)) + (x1_.toInt64)), .second, lvJ (((0 : Int64) + (y0_.toInt64)) + (y1_.toInt64)), .second, lvR b9, lvJ ((0 : Int64) + (x0_.toInt64)), .second, lvJ ((0 : Int64) + (hi_.toInt64)), .second, lvI ((0 : Int32) + c0_), lvJ ((0 : Int64) + (y0_.toInt64)), .second, lvI (0 : Int32)] [(.int (0 : Int32)), (.ref aB), (.int (0 : Int32)), (.ref aB)] _
    refine X123.laload hx (j := (0 : Int32)) (v := (.long be0)) (by rw [e123]; exact r132.1) (State.isArrayOf_alike hZ.alike r132.2.1) r132.2.2 hin132 hat132 (g := (mkF m 254 #[lvR o_, lvR am, lvR ad, lvJ (((0 : Int64) + (x0_.toInt64)) + (x1_.toInt64)), .second, lvJ (((0 : Int64) + (y0_.toInt64)) + (y1_.toInt64)), .second, lvR b9, lvJ ((0 : Int64) + (x0_.toInt64)), .second, lvJ ((0 : Int64) + (hi_.toInt64)), .second, lvI ((0 : Int32) + c0_), lvJ ((0 : Int64) + (y0_.toInt64)), .second, lvI (0 : Int32)] [(.int (0 : Int32)), (.ref aB), (.int (0 : Int32)), (.ref aB)])) rfl rfl (hb hby d7_254) _ ?_
    refine XS.lload X123.here hx rfl (hb hby d7_255) rfl ?_
    refine XS.ladd X123.here hx rfl (hb hby d7_257) rfl ?_
    show own_S p e below m T123 258 #[lvR o_, lvR am, lvR ad, lvJ (((0 : Int64) + (x0_.toInt64)) + (x1_.toInt64)), .second, lvJ (((0 : Int64) + (y0_.toInt64)) + (y1_.toInt64)), .second, lvR b9, lvJ ((0 : Int64) + (x0_.toInt64)), .second, lvJ ((0 : Int64) + (hi_.toInt64)), .second, lvI ((0 : Int32) + c0_), lvJ ((0 : Int64) + (y0_.toInt64)), .second, lvI (0 : Int32)] [(.long (be0 + ((0 : Int64) + (hi_.toInt64)))), (.int (0 : Int32)), (.ref aB)] _
    refine st133 _ ?_
    refine XS.iinc X133.here hx rfl (hb hby d7_259) rfl (l' := #[lvR o_, lvR am, lvR ad, lvJ (((0 : Int64) + (x0_.toInt64)) + (x1_.toInt64)), .second, lvJ (((0 : Int64) + (y0_.toInt64)) + (y1_.toInt64)), .second, lvR b9, lvJ ((0 : Int64) + (x0_.toInt64)), .second, lvJ ((0 : Int64) + (hi_.toInt64)), .second, lvI ((0 : Int32) + c0_), lvJ ((0 : Int64) + (y0_.toInt64)), .second, lvI (1 : Int32)]) rfl ?_
    refine XS.goto X133.here hx rfl (pc0 := 262) (pc' := 102) rfl (hb hby d7_262) (by decide) (by decide) ?_
    refine XS.iload X133.here hx rfl (hb hby d7_102) rfl ?_
    refine XS.aloadN X133.here hx rfl (hb hby d7_104) rfl rfl ?_
    show own_S p e below m T133 105 #[lvR o_, lvR am, lvR ad, lvJ (((0 : Int64) + (x0_.toInt64)) + (x1_.toInt64)), .second, lvJ (((0 : Int64) + (y0_.toInt64)) + (y1_.toInt64)), .second, lvR b9, lvJ ((0 : Int64) + (x0_.toInt64)), .second, lvJ ((0 : Int64) + (hi_.toInt64)), .second, lvI ((0 : Int32) + c0_), lvJ ((0 : Int64) + (y0_.toInt64)), .second, lvI (1 : Int32)] [(.ref o_), (.int (1 : Int32))] _
    refine st142 _ ?_
    show own_S p e below m T142 108 #[lvR o_, lvR am, lvR ad, lvJ (((0 : Int64) + (x0_.toInt64)) + (x1_.toInt64)), .second, lvJ (((0 : Int64) + (y0_.toInt64)) + (y1_.toInt64)), .second, lvR b9, lvJ ((0 : Int64) + (x0_.toInt64)), .second, lvJ ((0 : Int64) + (hi_.toInt64)), .second, lvI ((0 : Int32) + c0_), lvJ ((0 : Int64) + (y0_.toInt64)), .second, lvI (1 : Int32)] [(.int (2 : Int32)), (.int (1 : Int32))] _
    refine XS.icmpNo X142.here hx rfl (hb hby d7_108) rfl (tlt (by decide : (1 : Int32) < (2 : Int32))).2.1 ?_
    refine XS.lload X142.here hx rfl (hb hby d7_111) rfl ?_
    refine XS.aloadN X142.here hx rfl (hb hby d7_113) rfl rfl ?_
    refine XS.iload X142.here hx rfl (hb hby d7_114) rfl ?_
    show own_S p e below m T142 116 #[lvR o_, lvR am, lvR ad, lvJ (((0 : Int64) + (x0_.toInt64)) + (x1_.toInt64)), .second, lvJ (((0 : Int64) + (y0_.toInt64)) + (y1_.toInt64)), .second, lvR b9, lvJ ((0 : Int64) + (x0_.toInt64)), .second, lvJ ((0 : Int64) + (hi_.toInt64)), .second, lvI ((0 : Int32) + c0_), lvJ ((0 : Int64) + (y0_.toInt64)), .second, lvI (1 : Int32)] [(.int (1 : Int32)), (.ref am), (.long ((0 : Int64) + (x0_.toInt64)))] _
    refine X142.iaload hx (j := (1 : Int32)) (v := (.int x1_)) (by rw [e142]; exact r149.1) (State.isArrayOf_alike hZ.alike r149.2.1) r149.2.2 hin149 hat149 (g := (mkF m 116 #[lvR o_, lvR am, lvR ad, lvJ (((0 : Int64) + (x0_.toInt64)) + (x1_.toInt64)), .second, lvJ (((0 : Int64) + (y0_.toInt64)) + (y1_.toInt64)), .second, lvR b9, lvJ ((0 : Int64) + (x0_.toInt64)), .second, lvJ ((0 : Int64) + (hi_.toInt64)), .second, lvI ((0 : Int32) + c0_), lvJ ((0 : Int64) + (y0_.toInt64)), .second, lvI (1 : Int32)] [(.int (1 : Int32)), (.ref am), (.long ((0 : Int64) + (x0_.toInt64)))])) rfl rfl (hb hby d7_116) _ ?_
    refine XS.i2l X142.here hx rfl (hb hby d7_117) rfl ?_
    refine XS.ladd X142.here hx rfl (hb hby d7_118) rfl ?_
    refine XS.lstore X142.here hx rfl (hb hby d7_119) rfl (l' := #[lvR o_, lvR am, lvR ad, lvJ (((0 : Int64) + (x0_.toInt64)) + (x1_.toInt64)), .second, lvJ (((0 : Int64) + (y0_.toInt64)) + (y1_.toInt64)), .second, lvR b9, lvJ (((0 : Int64) + (x0_.toInt64)) + (x1_.toInt64)), .second, lvJ ((0 : Int64) + (hi_.toInt64)), .second, lvI ((0 : Int32) + c0_), lvJ ((0 : Int64) + (y0_.toInt64)), .second, lvI (1 : Int32)]) rfl ?_
    refine XS.lload X142.here hx rfl (hb hby d7_121) rfl ?_
    refine XS.aload X142.here hx rfl (hb hby d7_123) rfl rfl ?_
    refine XS.aloadN X142.here hx rfl (hb hby d7_125) rfl rfl ?_
    show own_S p e below m T142 126 #[lvR o_, lvR am, lvR ad, lvJ (((0 : Int64) + (x0_.toInt64)) + (x1_.toInt64)), .second, lvJ (((0 : Int64) + (y0_.toInt64)) + (y1_.toInt64)), .second, lvR b9, lvJ (((0 : Int64) + (x0_.toInt64)) + (x1_.toInt64)), .second, lvJ ((0 : Int64) + (hi_.toInt64)), .second, lvI ((0 : Int32) + c0_), lvJ ((0 : Int64) + (y0_.toInt64)), .second, lvI (1 : Int32)] [(.ref o_), (.ref b9), (.long ((0 : Int64) + (hi_.toInt64)))] _
    refine st150 _ ?_
    refine XS.iconst X150.here hx rfl (hb hby d7_129) ?_
    refine XS.isub X150.here hx rfl (hb hby d7_130) rfl ?_
    refine XS.iload X150.here hx rfl (hb hby d7_131) rfl ?_
    refine XS.isub X150.here hx rfl (hb hby d7_133) rfl ?_
    show own_S p e below m T150 134 #[lvR o_, lvR am, lvR ad, lvJ (((0 : Int64) + (x0_.toInt64)) + (x1_.toInt64)), .second, lvJ (((0 : Int64) + (y0_.toInt64)) + (y1_.toInt64)), .second, lvR b9, lvJ (((0 : Int64) + (x0_.toInt64)) + (x1_.toInt64)), .second, lvJ ((0 : Int64) + (hi_.toInt64)), .second, lvI ((0 : Int32) + c0_), lvJ ((0 : Int64) + (y0_.toInt64)), .second, lvI (1 : Int32)] [(.int (0 : Int32)), (.ref b9), (.long ((0 : Int64) + (hi_.toInt64)))] _
    refine X150.iaload hx (j := (0 : Int32)) (v := (.int lo_)) (by rw [e150]; exact r157.1) (State.isArrayOf_alike hZ.alike r157.2.1) r157.2.2 hin157 hat157 (g := (mkF m 134 #[lvR o_, lvR am, lvR ad, lvJ (((0 : Int64) + (x0_.toInt64)) + (x1_.toInt64)), .second, lvJ (((0 : Int64) + (y0_.toInt64)) + (y1_.toInt64)), .second, lvR b9, lvJ (((0 : Int64) + (x0_.toInt64)) + (x1_.toInt64)), .second, lvJ ((0 : Int64) + (hi_.toInt64)), .second, lvI ((0 : Int32) + c0_), lvJ ((0 : Int64) + (y0_.toInt64)), .second, lvI (1 : Int32)] [(.int (0 : Int32)), (.ref b9), (.long ((0 : Int64) + (hi_.toInt64)))])) rfl rfl (hb hby d7_134) _ ?_
    refine XS.i2l X150.here hx rfl (hb hby d7_135) rfl ?_
    refine XS.ladd X150.here hx rfl (hb hby d7_136) rfl ?_
    refine XS.lstore X150.here hx rfl (hb hby d7_137) rfl (l' := #[lvR o_, lvR am, lvR ad, lvJ (((0 : Int64) + (x0_.toInt64)) + (x1_.toInt64)), .second, lvJ (((0 : Int64) + (y0_.toInt64)) + (y1_.toInt64)), .second, lvR b9, lvJ (((0 : Int64) + (x0_.toInt64)) + (x1_.toInt64)), .second, lvJ (((0 : Int64) + (hi_.toInt64)) + (lo_.toInt64)), .second, lvI ((0 : Int32) + c0_), lvJ ((0 : Int64) + (y0_.toInt64)), .second, lvI (1 : Int32)]) rfl ?_
    refine XS.iload X150.here hx rfl (hb hby d7_139) rfl ?_
    refine XS.aloadN X150.here hx rfl (hb hby d7_141) rfl rfl ?_
    refine XS.iload X150.here hx rfl (hb hby d7_142) rfl ?_
    show own_S p e below m T150 144 #[lvR o_, lvR am, lvR ad, lvJ (((0 : Int64) + (x0_.toInt64)) + (x1_.toInt64)), .second, lvJ (((0 : Int64) + (y0_.toInt64)) + (y1_.toInt64)), .second, lvR b9, lvJ (((0 : Int64) + (x0_.toInt64)) + (x1_.toInt64)), .second, lvJ (((0 : Int64) + (hi_.toInt64)) + (lo_.toInt64)), .second, lvI ((0 : Int32) + c0_), lvJ ((0 : Int64) + (y0_.toInt64)), .second, lvI (1 : Int32)] [(.int (1 : Int32)), (.ref am), (.int ((0 : Int32) + c0_))] _
    refine X150.iaload hx (j := (1 : Int32)) (v := (.int x1_)) (by rw [e150]; exact r158.1) (State.isArrayOf_alike hZ.alike r158.2.1) r158.2.2 hin158 hat158 (g := (mkF m 144 #[lvR o_, lvR am, lvR ad, lvJ (((0 : Int64) + (x0_.toInt64)) + (x1_.toInt64)), .second, lvJ (((0 : Int64) + (y0_.toInt64)) + (y1_.toInt64)), .second, lvR b9, lvJ (((0 : Int64) + (x0_.toInt64)) + (x1_.toInt64)), .second, lvJ (((0 : Int64) + (hi_.toInt64)) + (lo_.toInt64)), .second, lvI ((0 : Int32) + c0_), lvJ ((0 : Int64) + (y0_.toInt64)), .second, lvI (1 : Int32)] [(.int (1 : Int32)), (.ref am), (.int ((0 : Int32) + c0_))])) rfl rfl (hb hby d7_144) _ ?_
    exact kt
  have pre160 : ∀ t, own_S p e below m T150 153 #[lvR o_, lvR am, lvR ad, lvJ (((0 : Int64) + (x0_.toInt64)) + (x1_.toInt64)), .second, lvJ (((0 : Int64) + (y0_.toInt64)) + (y1_.toInt64)), .second, lvR b9, lvJ (((0 : Int64) + (x0_.toInt64)) + (x1_.toInt64)), .second, lvJ (((0 : Int64) + (hi_.toInt64)) + (lo_.toInt64)), .second, lvI ((0 : Int32) + c0_), lvJ ((0 : Int64) + (y0_.toInt64)), .second, lvI (1 : Int32)] [(.int c1_), (.int ((0 : Int32) + c0_))] t → G t := by
    intro t kt
    rcases hp1 with ⟨hj161_0, ej161_0⟩ | ⟨hj162_0, ej162_0⟩
    · have pre163 : ∀ t, own_S p e below m T150 153 #[lvR o_, lvR am, lvR ad, lvJ (((0 : Int64) + (x0_.toInt64)) + (x1_.toInt64)), .second, lvJ (((0 : Int64) + (y0_.toInt64)) + (y1_.toInt64)), .second, lvR b9, lvJ (((0 : Int64) + (x0_.toInt64)) + (x1_.toInt64)), .second, lvJ (((0 : Int64) + (hi_.toInt64)) + (lo_.toInt64)), .second, lvI ((0 : Int32) + c0_), lvJ ((0 : Int64) + (y0_.toInt64)), .second, lvI (1 : Int32)] [(.int (1 : Int32)), (.int ((0 : Int32) + c0_))] t → G t := by
        intro t kt
        refine pre159 t ?_
        show own_S p e below m T150 145 #[lvR o_, lvR am, lvR ad, lvJ (((0 : Int64) + (x0_.toInt64)) + (x1_.toInt64)), .second, lvJ (((0 : Int64) + (y0_.toInt64)) + (y1_.toInt64)), .second, lvR b9, lvJ (((0 : Int64) + (x0_.toInt64)) + (x1_.toInt64)), .second, lvJ (((0 : Int64) + (hi_.toInt64)) + (lo_.toInt64)), .second, lvI ((0 : Int32) + c0_), lvJ ((0 : Int64) + (y0_.toInt64)), .second, lvI (1 : Int32)] [(.int x1_), (.int ((0 : Int32) + c0_))] _
        refine XS.ifNo X150.here hx rfl (hb hby d7_145) rfl ((if0 _ _).trans (tlt hj161_0).2.2.2) ?_
        refine XS.iconst X150.here hx rfl (hb hby d7_148) ?_
        refine XS.goto X150.here hx rfl (pc0 := 149) (pc' := 153) rfl (hb hby d7_149) (by decide) (by decide) ?_
        exact kt
      exact pre163 t (by rw [ej161_0] at kt; exact kt)
    · have pre164 : ∀ t, own_S p e below m T150 153 #[lvR o_, lvR am, lvR ad, lvJ (((0 : Int64) + (x0_.toInt64)) + (x1_.toInt64)), .second, lvJ (((0 : Int64) + (y0_.toInt64)) + (y1_.toInt64)), .second, lvR b9, lvJ (((0 : Int64) + (x0_.toInt64)) + (x1_.toInt64)), .second, lvJ (((0 : Int64) + (hi_.toInt64)) + (lo_.toInt64)), .second, lvI ((0 : Int32) + c0_), lvJ ((0 : Int64) + (y0_.toInt64)), .second, lvI (1 : Int32)] [(.int (0 : Int32)), (.int ((0 : Int32) + c0_))] t → G t := by
        intro t kt
        refine pre159 t ?_
        show own_S p e below m T150 145 #[lvR o_, lvR am, lvR ad, lvJ (((0 : Int64) + (x0_.toInt64)) + (x1_.toInt64)), .second, lvJ (((0 : Int64) + (y0_.toInt64)) + (y1_.toInt64)), .second, lvR b9, lvJ (((0 : Int64) + (x0_.toInt64)) + (x1_.toInt64)), .second, lvJ (((0 : Int64) + (hi_.toInt64)) + (lo_.toInt64)), .second, lvI ((0 : Int32) + c0_), lvJ ((0 : Int64) + (y0_.toInt64)), .second, lvI (1 : Int32)] [(.int x1_), (.int ((0 : Int32) + c0_))] _
        refine XS.ifYes X150.here hx rfl (pc0 := 145) (pc' := 152) rfl (hb hby d7_145) rfl ((if0 _ _).trans (flt hj162_0).2.2.2) (by decide) (by decide) ?_
        refine XS.iconst X150.here hx rfl (hb hby d7_152) ?_
        exact kt
      exact pre164 t (by rw [ej162_0] at kt; exact kt)
  have f165 : Arv Z h47 ad kad .int (2 : Int32) [(.int y0_), (.int y1_)] (.int (0 : Int32)) := f35.other W47 P85
  have f166 : Arv Z h61 ad kad .int (2 : Int32) [(.int y0_), (.int y1_)] (.int (0 : Int32)) := f165.other W61 P86
  have f167 : Arv Z h77 ad kad .int (2 : Int32) [(.int y0_), (.int y1_)] (.int (0 : Int32)) := f166.other W77 P87
  have f168 : Arv Z h95 ad kad .int (2 : Int32) [(.int y0_), (.int y1_)] (.int (0 : Int32)) := f167.other W95 P88
  have f169 : Arv Z h113 ad kad .int (2 : Int32) [(.int y0_), (.int y1_)] (.int (0 : Int32)) := f168.other W113 P89
  have f170 : Arv Z h133 ad kad .int (2 : Int32) [(.int y0_), (.int y1_)] (.int (0 : Int32)) := f169.other W133 P90
  obtain ⟨c171, r171, q171, s171, z171, y171, G171⟩ := id f170
  have hin171 : ¬ ((1 : Int32) < 0 ∨ c171.slots.size ≤ ((1 : Int32)).toNatClampNeg) := inb_of s171 ⟨by decide, by decide⟩
  have hat171 : c171.slots[((1 : Int32)).toNatClampNeg]? = some (.int y1_) := Has.at y171 hin171 rfl
  have f172 : Fld Z h47 o_ cn1 "rSums" "[D" (.ref aR) := f39.other W47 (Or.inl P53)
  have f173 : Fld Z h61 o_ cn1 "rSums" "[D" (.ref aR) := f172.other W61 (Or.inl P56)
  have f174 : Fld Z h77 o_ cn1 "rSums" "[D" (.ref aR) := f173.other W77 (Or.inl P60)
  have f175 : Fld Z h95 o_ cn1 "rSums" "[D" (.ref aR) := f174.other W95 (Or.inl P65)
  have f176 : Fld Z h113 o_ cn1 "rSums" "[D" (.ref aR) := f175.other W113 (Or.inl P71)
  have f177 : Fld Z h133 o_ cn1 "rSums" "[D" (.ref aR) := f176.other W133 (Or.inl P78)
  obtain ⟨T178, X178, e178, st178⟩ := getF X150 hx hZ hown (host := "") (Or.inl (own_w hw 14 rfl)) Via.refl e150 f177 (g := (mkF m 167 #[lvR o_, lvR am, lvR ad, lvJ (((0 : Int64) + (x0_.toInt64)) + (x1_.toInt64)), .second, lvJ (((0 : Int64) + (y0_.toInt64)) + (y1_.toInt64)), .second, lvR b9, lvJ (((0 : Int64) + (x0_.toInt64)) + (x1_.toInt64)), .second, lvJ (((0 : Int64) + (hi_.toInt64)) + (lo_.toInt64)), .second, lvI (((0 : Int32) + c0_) + c1_), lvJ (((0 : Int64) + (y0_.toInt64)) + (y1_.toInt64)), .second, lvI (1 : Int32)] [(.ref o_)])) rfl rfl (hb hby d7_167)
  have f179 : Arv Z h61 aR kaR .double (2 : Int32) [(.double (FP.dadd rs0 qr0)), (.double rs1)] (.double (0 : UInt64)) := f49.other W61 (Ne.symm P54)
  have f180 : Arv Z h77 aR kaR .double (2 : Int32) [(.double (FP.dadd rs0 qr0)), (.double rs1)] (.double (0 : UInt64)) := f179.other W77 (Ne.symm P57)
  have f181 : Arv Z h95 aR kaR .double (2 : Int32) [(.double (FP.dadd rs0 qr0)), (.double rs1)] (.double (0 : UInt64)) := f180.other W95 (Ne.symm P61)
  have f182 : Arv Z h113 aR kaR .double (2 : Int32) [(.double (FP.dadd rs0 qr0)), (.double rs1)] (.double (0 : UInt64)) := f181.other W113 (Ne.symm P66)
  have f183 : Arv Z h133 aR kaR .double (2 : Int32) [(.double (FP.dadd rs0 qr0)), (.double rs1)] (.double (0 : UInt64)) := f182.other W133 (Ne.symm P72)
  obtain ⟨c184, r184, q184, s184, z184, y184, G184⟩ := id f183
  have hin184 : ¬ ((1 : Int32) < 0 ∨ c184.slots.size ≤ ((1 : Int32)).toNatClampNeg) := inb_of s184 ⟨by decide, by decide⟩
  have hat184 : c184.slots[((1 : Int32)).toNatClampNeg]? = some (.double rs1) := Has.at y184 hin184 rfl
  have pre185 : ∀ t, own_S p e below m T178 181 #[lvR o_, lvR am, lvR ad, lvJ (((0 : Int64) + (x0_.toInt64)) + (x1_.toInt64)), .second, lvJ (((0 : Int64) + (y0_.toInt64)) + (y1_.toInt64)), .second, lvR b9, lvJ (((0 : Int64) + (x0_.toInt64)) + (x1_.toInt64)), .second, lvJ (((0 : Int64) + (hi_.toInt64)) + (lo_.toInt64)), .second, lvI (((0 : Int32) + c0_) + c1_), lvJ (((0 : Int64) + (y0_.toInt64)) + (y1_.toInt64)), .second, lvI (1 : Int32)] [(.double (FP.ddiv (FP.l2d (((0 : Int64) + (x0_.toInt64)) + (x1_.toInt64))) (FP.l2d (((0 : Int64) + (hi_.toInt64)) + (lo_.toInt64))))), (.double rs1), (.int (1 : Int32)), (.ref aR)] t → G t := by
    intro t kt
    refine pre160 t ?_
    show own_S p e below m T150 153 #[lvR o_, lvR am, lvR ad, lvJ (((0 : Int64) + (x0_.toInt64)) + (x1_.toInt64)), .second, lvJ (((0 : Int64) + (y0_.toInt64)) + (y1_.toInt64)), .second, lvR b9, lvJ (((0 : Int64) + (x0_.toInt64)) + (x1_.toInt64)), .second, lvJ (((0 : Int64) + (hi_.toInt64)) + (lo_.toInt64)), .second, lvI ((0 : Int32) + c0_), lvJ ((0 : Int64) + (y0_.toInt64)), .second, lvI (1 : Int32)] [(.int c1_), (.int ((0 : Int32) + c0_))] _
    refine XS.iadd X150.here hx rfl (hb hby d7_153) rfl ?_
    refine XS.istore X150.here hx rfl (hb hby d7_154) rfl (l' := #[lvR o_, lvR am, lvR ad, lvJ (((0 : Int64) + (x0_.toInt64)) + (x1_.toInt64)), .second, lvJ (((0 : Int64) + (y0_.toInt64)) + (y1_.toInt64)), .second, lvR b9, lvJ (((0 : Int64) + (x0_.toInt64)) + (x1_.toInt64)), .second, lvJ (((0 : Int64) + (hi_.toInt64)) + (lo_.toInt64)), .second, lvI (((0 : Int32) + c0_) + c1_), lvJ ((0 : Int64) + (y0_.toInt64)), .second, lvI (1 : Int32)]) rfl ?_
    refine XS.lload X150.here hx rfl (hb hby d7_156) rfl ?_
    refine XS.aloadN X150.here hx rfl (hb hby d7_158) rfl rfl ?_
    refine XS.iload X150.here hx rfl (hb hby d7_159) rfl ?_
    show own_S p e below m T150 161 #[lvR o_, lvR am, lvR ad, lvJ (((0 : Int64) + (x0_.toInt64)) + (x1_.toInt64)), .second, lvJ (((0 : Int64) + (y0_.toInt64)) + (y1_.toInt64)), .second, lvR b9, lvJ (((0 : Int64) + (x0_.toInt64)) + (x1_.toInt64)), .second, lvJ (((0 : Int64) + (hi_.toInt64)) + (lo_.toInt64)), .second, lvI (((0 : Int32) + c0_) + c1_), lvJ ((0 : Int64) + (y0_.toInt64)), .second, lvI (1 : Int32)] [(.int (1 : Int32)), (.ref ad), (.long ((0 : Int64) + (y0_.toInt64)))] _
    refine X150.iaload hx (j := (1 : Int32)) (v := (.int y1_)) (by rw [e150]; exact r171.1) (State.isArrayOf_alike hZ.alike r171.2.1) r171.2.2 hin171 hat171 (g := (mkF m 161 #[lvR o_, lvR am, lvR ad, lvJ (((0 : Int64) + (x0_.toInt64)) + (x1_.toInt64)), .second, lvJ (((0 : Int64) + (y0_.toInt64)) + (y1_.toInt64)), .second, lvR b9, lvJ (((0 : Int64) + (x0_.toInt64)) + (x1_.toInt64)), .second, lvJ (((0 : Int64) + (hi_.toInt64)) + (lo_.toInt64)), .second, lvI (((0 : Int32) + c0_) + c1_), lvJ ((0 : Int64) + (y0_.toInt64)), .second, lvI (1 : Int32)] [(.int (1 : Int32)), (.ref ad), (.long ((0 : Int64) + (y0_.toInt64)))])) rfl rfl (hb hby d7_161) _ ?_
    refine XS.i2l X150.here hx rfl (hb hby d7_162) rfl ?_
    refine XS.ladd X150.here hx rfl (hb hby d7_163) rfl ?_
    refine XS.lstore X150.here hx rfl (hb hby d7_164) rfl (l' := #[lvR o_, lvR am, lvR ad, lvJ (((0 : Int64) + (x0_.toInt64)) + (x1_.toInt64)), .second, lvJ (((0 : Int64) + (y0_.toInt64)) + (y1_.toInt64)), .second, lvR b9, lvJ (((0 : Int64) + (x0_.toInt64)) + (x1_.toInt64)), .second, lvJ (((0 : Int64) + (hi_.toInt64)) + (lo_.toInt64)), .second, lvI (((0 : Int32) + c0_) + c1_), lvJ (((0 : Int64) + (y0_.toInt64)) + (y1_.toInt64)), .second, lvI (1 : Int32)]) rfl ?_
    refine XS.aloadN X150.here hx rfl (hb hby d7_166) rfl rfl ?_
    show own_S p e below m T150 167 #[lvR o_, lvR am, lvR ad, lvJ (((0 : Int64) + (x0_.toInt64)) + (x1_.toInt64)), .second, lvJ (((0 : Int64) + (y0_.toInt64)) + (y1_.toInt64)), .second, lvR b9, lvJ (((0 : Int64) + (x0_.toInt64)) + (x1_.toInt64)), .second, lvJ (((0 : Int64) + (hi_.toInt64)) + (lo_.toInt64)), .second, lvI (((0 : Int32) + c0_) + c1_), lvJ (((0 : Int64) + (y0_.toInt64)) + (y1_.toInt64)), .second, lvI (1 : Int32)] [(.ref o_)] _
    refine st178 _ ?_
    refine XS.iload X178.here hx rfl (hb hby d7_170) rfl ?_
    refine XT.dup2 X178.here hx rfl (hb hby d7_172) rfl rfl rfl ?_
    show own_S p e below m T178 173 #[lvR o_, lvR am, lvR ad, lvJ (((0 : Int64) + (x0_.toInt64)) + (x1_.toInt64)), .second, lvJ (((0 : Int64) + (y0_.toInt64)) + (y1_.toInt64)), .second, lvR b9, lvJ (((0 : Int64) + (x0_.toInt64)) + (x1_.toInt64)), .second, lvJ (((0 : Int64) + (hi_.toInt64)) + (lo_.toInt64)), .second, lvI (((0 : Int32) + c0_) + c1_), lvJ (((0 : Int64) + (y0_.toInt64)) + (y1_.toInt64)), .second, lvI (1 : Int32)] [(.int (1 : Int32)), (.ref aR), (.int (1 : Int32)), (.ref aR)] _
    refine X178.daload hx (j := (1 : Int32)) (v := (.double rs1)) (by rw [e178]; exact r184.1) (State.isArrayOf_alike hZ.alike r184.2.1) r184.2.2 hin184 hat184 (g := (mkF m 173 #[lvR o_, lvR am, lvR ad, lvJ (((0 : Int64) + (x0_.toInt64)) + (x1_.toInt64)), .second, lvJ (((0 : Int64) + (y0_.toInt64)) + (y1_.toInt64)), .second, lvR b9, lvJ (((0 : Int64) + (x0_.toInt64)) + (x1_.toInt64)), .second, lvJ (((0 : Int64) + (hi_.toInt64)) + (lo_.toInt64)), .second, lvI (((0 : Int32) + c0_) + c1_), lvJ (((0 : Int64) + (y0_.toInt64)) + (y1_.toInt64)), .second, lvI (1 : Int32)] [(.int (1 : Int32)), (.ref aR), (.int (1 : Int32)), (.ref aR)])) rfl rfl (hb hby d7_173) _ ?_
    refine XS.lload X178.here hx rfl (hb hby d7_174) rfl ?_
    refine XS.l2dS X178.here hx rfl (hb hby d7_176) rfl rfl ?_
    refine XS.lload X178.here hx rfl (hb hby d7_177) rfl ?_
    refine XS.l2dS X178.here hx rfl (hb hby d7_179) rfl rfl ?_
    refine XS.ddivS X178.here hx rfl (hb hby d7_180) rfl nqr1 rfl ?_
    exact kt
  have pre186 : ∀ t, own_S p e below m T178 181 #[lvR o_, lvR am, lvR ad, lvJ (((0 : Int64) + (x0_.toInt64)) + (x1_.toInt64)), .second, lvJ (((0 : Int64) + (y0_.toInt64)) + (y1_.toInt64)), .second, lvR b9, lvJ (((0 : Int64) + (x0_.toInt64)) + (x1_.toInt64)), .second, lvJ (((0 : Int64) + (hi_.toInt64)) + (lo_.toInt64)), .second, lvI (((0 : Int32) + c0_) + c1_), lvJ (((0 : Int64) + (y0_.toInt64)) + (y1_.toInt64)), .second, lvI (1 : Int32)] [(.double qr1), (.double rs1), (.int (1 : Int32)), (.ref aR)] t → G t := fun t kt => pre185 t (by rw [eqr1]; exact kt)
  obtain ⟨c187, r187, q187, s187, z187, y187, G187⟩ := id f183
  have hin187 : ¬ ((1 : Int32) < 0 ∨ c187.slots.size ≤ ((1 : Int32)).toNatClampNeg) := inb_of s187 ⟨by decide, by decide⟩
  obtain ⟨T187, h187, X187, e187, W187, st187⟩ := stD X178 hx hZ e178 r187 (j := (1 : Int32)) hin187 (g := (mkF m 182 #[lvR o_, lvR am, lvR ad, lvJ (((0 : Int64) + (x0_.toInt64)) + (x1_.toInt64)), .second, lvJ (((0 : Int64) + (y0_.toInt64)) + (y1_.toInt64)), .second, lvR b9, lvJ (((0 : Int64) + (x0_.toInt64)) + (x1_.toInt64)), .second, lvJ (((0 : Int64) + (hi_.toInt64)) + (lo_.toInt64)), .second, lvI (((0 : Int32) + c0_) + c1_), lvJ (((0 : Int64) + (y0_.toInt64)) + (y1_.toInt64)), .second, lvI (1 : Int32)] [(.double (FP.dadd rs1 qr1)), (.int (1 : Int32)), (.ref aR)])) rfl rfl (hb hby d7_182)
  have N188 := Fr.snoc X187 N134 P52
  have f189 : Arv Z h187 aR kaR .double (2 : Int32) [(.double (FP.dadd rs0 qr0)), (.double (FP.dadd rs1 qr1))] (.double (0 : UInt64)) := Arv.set r187 q187 s187 z187 y187 G187 rfl W187 1 rfl (Nat.le_of_ble_eq_true rfl)
  have f190 : Fld Z h61 o_ cn1 "rHatSums" "[D" (.ref aH) := f52.other W61 (Or.inl P56)
  have f191 : Fld Z h77 o_ cn1 "rHatSums" "[D" (.ref aH) := f190.other W77 (Or.inl P60)
  have f192 : Fld Z h95 o_ cn1 "rHatSums" "[D" (.ref aH) := f191.other W95 (Or.inl P65)
  have f193 : Fld Z h113 o_ cn1 "rHatSums" "[D" (.ref aH) := f192.other W113 (Or.inl P71)
  have f194 : Fld Z h133 o_ cn1 "rHatSums" "[D" (.ref aH) := f193.other W133 (Or.inl P78)
  have f195 : Fld Z h187 o_ cn1 "rHatSums" "[D" (.ref aH) := f194.other W187 (Or.inl P53)
  obtain ⟨T196, X196, e196, st196⟩ := getF X187 hx hZ hown (host := "") (Or.inl (own_w hw 16 rfl)) Via.refl e187 f195 (g := (mkF m 184 #[lvR o_, lvR am, lvR ad, lvJ (((0 : Int64) + (x0_.toInt64)) + (x1_.toInt64)), .second, lvJ (((0 : Int64) + (y0_.toInt64)) + (y1_.toInt64)), .second, lvR b9, lvJ (((0 : Int64) + (x0_.toInt64)) + (x1_.toInt64)), .second, lvJ (((0 : Int64) + (hi_.toInt64)) + (lo_.toInt64)), .second, lvI (((0 : Int32) + c0_) + c1_), lvJ (((0 : Int64) + (y0_.toInt64)) + (y1_.toInt64)), .second, lvI (1 : Int32)] [(.ref o_)])) rfl rfl (hb hby d7_184)
  have f197 : Arv Z h77 aH kaH .double (2 : Int32) [(.double (FP.dadd rh0 qh0)), (.double rh1)] (.double (0 : UInt64)) := f63.other W77 (Ne.symm P58)
  have f198 : Arv Z h95 aH kaH .double (2 : Int32) [(.double (FP.dadd rh0 qh0)), (.double rh1)] (.double (0 : UInt64)) := f197.other W95 (Ne.symm P62)
  have f199 : Arv Z h113 aH kaH .double (2 : Int32) [(.double (FP.dadd rh0 qh0)), (.double rh1)] (.double (0 : UInt64)) := f198.other W113 (Ne.symm P67)
  have f200 : Arv Z h133 aH kaH .double (2 : Int32) [(.double (FP.dadd rh0 qh0)), (.double rh1)] (.double (0 : UInt64)) := f199.other W133 (Ne.symm P73)
  have f201 : Arv Z h187 aH kaH .double (2 : Int32) [(.double (FP.dadd rh0 qh0)), (.double rh1)] (.double (0 : UInt64)) := f200.other W187 P54
  obtain ⟨c202, r202, q202, s202, z202, y202, G202⟩ := id f201
  have hin202 : ¬ ((1 : Int32) < 0 ∨ c202.slots.size ≤ ((1 : Int32)).toNatClampNeg) := inb_of s202 ⟨by decide, by decide⟩
  have hat202 : c202.slots[((1 : Int32)).toNatClampNeg]? = some (.double rh1) := Has.at y202 hin202 rfl
  have pre203 : ∀ t, own_S p e below m T196 197 #[lvR o_, lvR am, lvR ad, lvJ (((0 : Int64) + (x0_.toInt64)) + (x1_.toInt64)), .second, lvJ (((0 : Int64) + (y0_.toInt64)) + (y1_.toInt64)), .second, lvR b9, lvJ (((0 : Int64) + (x0_.toInt64)) + (x1_.toInt64)), .second, lvJ (((0 : Int64) + (hi_.toInt64)) + (lo_.toInt64)), .second, lvI (((0 : Int32) + c0_) + c1_), lvJ (((0 : Int64) + (y0_.toInt64)) + (y1_.toInt64)), .second, lvI (1 : Int32)] [(.double (FP.ddiv (FP.l2d (((0 : Int64) + (x0_.toInt64)) + (x1_.toInt64))) (FP.l2d (((0 : Int64) + (x0_.toInt64)) + (x1_.toInt64))))), (.double rh1), (.int (1 : Int32)), (.ref aH)] t → G t := by
    intro t kt
    refine pre186 t ?_
    show own_S p e below m T178 181 #[lvR o_, lvR am, lvR ad, lvJ (((0 : Int64) + (x0_.toInt64)) + (x1_.toInt64)), .second, lvJ (((0 : Int64) + (y0_.toInt64)) + (y1_.toInt64)), .second, lvR b9, lvJ (((0 : Int64) + (x0_.toInt64)) + (x1_.toInt64)), .second, lvJ (((0 : Int64) + (hi_.toInt64)) + (lo_.toInt64)), .second, lvI (((0 : Int32) + c0_) + c1_), lvJ (((0 : Int64) + (y0_.toInt64)) + (y1_.toInt64)), .second, lvI (1 : Int32)] [(.double qr1), (.double rs1), (.int (1 : Int32)), (.ref aR)] _
    refine XS.daddS X178.here hx rfl (hb hby d7_181) rfl mqr1 rfl ?_
    show own_S p e below m T178 182 #[lvR o_, lvR am, lvR ad, lvJ (((0 : Int64) + (x0_.toInt64)) + (x1_.toInt64)), .second, lvJ (((0 : Int64) + (y0_.toInt64)) + (y1_.toInt64)), .second, lvR b9, lvJ (((0 : Int64) + (x0_.toInt64)) + (x1_.toInt64)), .second, lvJ (((0 : Int64) + (hi_.toInt64)) + (lo_.toInt64)), .second, lvI (((0 : Int32) + c0_) + c1_), lvJ (((0 : Int64) + (y0_.toInt64)) + (y1_.toInt64)), .second, lvI (1 : Int32)] [(.double (FP.dadd rs1 qr1)), (.int (1 : Int32)), (.ref aR)] _
    refine st187 _ ?_
    refine XS.aloadN X187.here hx rfl (hb hby d7_183) rfl rfl ?_
    show own_S p e below m T187 184 #[lvR o_, lvR am, lvR ad, lvJ (((0 : Int64) + (x0_.toInt64)) + (x1_.toInt64)), .second, lvJ (((0 : Int64) + (y0_.toInt64)) + (y1_.toInt64)), .second, lvR b9, lvJ (((0 : Int64) + (x0_.toInt64)) + (x1_.toInt64)), .second, lvJ (((0 : Int64) + (hi_.toInt64)) + (lo_.toInt64)), .second, lvI (((0 : Int32) + c0_) + c1_), lvJ (((0 : Int64) + (y0_.toInt64)) + (y1_.toInt64)), .second, lvI (1 : Int32)] [(.ref o_)] _
    refine st196 _ ?_
    refine XS.iload X196.here hx rfl (hb hby d7_187) rfl ?_
    refine XT.dup2 X196.here hx rfl (hb hby d7_189) rfl rfl rfl ?_
    show own_S p e below m T196 190 #[lvR o_, lvR am, lvR ad, lvJ (((0 : Int64) + (x0_.toInt64)) + (x1_.toInt64)), .second, lvJ (((0 : Int64) + (y0_.toInt64)) + (y1_.toInt64)), .second, lvR b9, lvJ (((0 : Int64) + (x0_.toInt64)) + (x1_.toInt64)), .second, lvJ (((0 : Int64) + (hi_.toInt64)) + (lo_.toInt64)), .second, lvI (((0 : Int32) + c0_) + c1_), lvJ (((0 : Int64) + (y0_.toInt64)) + (y1_.toInt64)), .second, lvI (1 : Int32)] [(.int (1 : Int32)), (.ref aH), (.int (1 : Int32)), (.ref aH)] _
    refine X196.daload hx (j := (1 : Int32)) (v := (.double rh1)) (by rw [e196]; exact r202.1) (State.isArrayOf_alike hZ.alike r202.2.1) r202.2.2 hin202 hat202 (g := (mkF m 190 #[lvR o_, lvR am, lvR ad, lvJ (((0 : Int64) + (x0_.toInt64)) + (x1_.toInt64)), .second, lvJ (((0 : Int64) + (y0_.toInt64)) + (y1_.toInt64)), .second, lvR b9, lvJ (((0 : Int64) + (x0_.toInt64)) + (x1_.toInt64)), .second, lvJ (((0 : Int64) + (hi_.toInt64)) + (lo_.toInt64)), .second, lvI (((0 : Int32) + c0_) + c1_), lvJ (((0 : Int64) + (y0_.toInt64)) + (y1_.toInt64)), .second, lvI (1 : Int32)] [(.int (1 : Int32)), (.ref aH), (.int (1 : Int32)), (.ref aH)])) rfl rfl (hb hby d7_190) _ ?_
    refine XS.lload X196.here hx rfl (hb hby d7_191) rfl ?_
    refine XS.l2dS X196.here hx rfl (hb hby d7_193) rfl rfl ?_
    refine XS.lloadN X196.here hx rfl (hb hby d7_194) rfl ?_
    refine XS.l2dS X196.here hx rfl (hb hby d7_195) rfl rfl ?_
    refine XS.ddivS X196.here hx rfl (hb hby d7_196) rfl nqh1 rfl ?_
    exact kt
  have pre204 : ∀ t, own_S p e below m T196 197 #[lvR o_, lvR am, lvR ad, lvJ (((0 : Int64) + (x0_.toInt64)) + (x1_.toInt64)), .second, lvJ (((0 : Int64) + (y0_.toInt64)) + (y1_.toInt64)), .second, lvR b9, lvJ (((0 : Int64) + (x0_.toInt64)) + (x1_.toInt64)), .second, lvJ (((0 : Int64) + (hi_.toInt64)) + (lo_.toInt64)), .second, lvI (((0 : Int32) + c0_) + c1_), lvJ (((0 : Int64) + (y0_.toInt64)) + (y1_.toInt64)), .second, lvI (1 : Int32)] [(.double qh1), (.double rh1), (.int (1 : Int32)), (.ref aH)] t → G t := fun t kt => pre203 t (by rw [eqh1]; exact kt)
  obtain ⟨c205, r205, q205, s205, z205, y205, G205⟩ := id f201
  have hin205 : ¬ ((1 : Int32) < 0 ∨ c205.slots.size ≤ ((1 : Int32)).toNatClampNeg) := inb_of s205 ⟨by decide, by decide⟩
  obtain ⟨T205, h205, X205, e205, W205, st205⟩ := stD X196 hx hZ e196 r205 (j := (1 : Int32)) hin205 (g := (mkF m 198 #[lvR o_, lvR am, lvR ad, lvJ (((0 : Int64) + (x0_.toInt64)) + (x1_.toInt64)), .second, lvJ (((0 : Int64) + (y0_.toInt64)) + (y1_.toInt64)), .second, lvR b9, lvJ (((0 : Int64) + (x0_.toInt64)) + (x1_.toInt64)), .second, lvJ (((0 : Int64) + (hi_.toInt64)) + (lo_.toInt64)), .second, lvI (((0 : Int32) + c0_) + c1_), lvJ (((0 : Int64) + (y0_.toInt64)) + (y1_.toInt64)), .second, lvI (1 : Int32)] [(.double (FP.dadd rh1 qh1)), (.int (1 : Int32)), (.ref aH)])) rfl rfl (hb hby d7_198)
  have N206 := Fr.snoc X205 N188 P55
  have f207 : Arv Z h205 aH kaH .double (2 : Int32) [(.double (FP.dadd rh0 qh0)), (.double (FP.dadd rh1 qh1))] (.double (0 : UInt64)) := Arv.set r205 q205 s205 z205 y205 G205 rfl W205 1 rfl (Nat.le_of_ble_eq_true rfl)
  have f208 : Fld Z h77 o_ cn1 "pSums" "[D" (.ref aP) := f67.other W77 (Or.inl P60)
  have f209 : Fld Z h95 o_ cn1 "pSums" "[D" (.ref aP) := f208.other W95 (Or.inl P65)
  have f210 : Fld Z h113 o_ cn1 "pSums" "[D" (.ref aP) := f209.other W113 (Or.inl P71)
  have f211 : Fld Z h133 o_ cn1 "pSums" "[D" (.ref aP) := f210.other W133 (Or.inl P78)
  have f212 : Fld Z h187 o_ cn1 "pSums" "[D" (.ref aP) := f211.other W187 (Or.inl P53)
  have f213 : Fld Z h205 o_ cn1 "pSums" "[D" (.ref aP) := f212.other W205 (Or.inl P56)
  obtain ⟨T214, X214, e214, st214⟩ := getF X205 hx hZ hown (host := "") (Or.inl (own_w hw 18 rfl)) Via.refl e205 f213 (g := (mkF m 200 #[lvR o_, lvR am, lvR ad, lvJ (((0 : Int64) + (x0_.toInt64)) + (x1_.toInt64)), .second, lvJ (((0 : Int64) + (y0_.toInt64)) + (y1_.toInt64)), .second, lvR b9, lvJ (((0 : Int64) + (x0_.toInt64)) + (x1_.toInt64)), .second, lvJ (((0 : Int64) + (hi_.toInt64)) + (lo_.toInt64)), .second, lvI (((0 : Int32) + c0_) + c1_), lvJ (((0 : Int64) + (y0_.toInt64)) + (y1_.toInt64)), .second, lvI (1 : Int32)] [(.ref o_)])) rfl rfl (hb hby d7_200)
  have f215 : Arv Z h95 aP kaP .double (2 : Int32) [(.double (FP.dadd ps0 qp0)), (.double ps1)] (.double (0 : UInt64)) := f79.other W95 (Ne.symm P63)
  have f216 : Arv Z h113 aP kaP .double (2 : Int32) [(.double (FP.dadd ps0 qp0)), (.double ps1)] (.double (0 : UInt64)) := f215.other W113 (Ne.symm P68)
  have f217 : Arv Z h133 aP kaP .double (2 : Int32) [(.double (FP.dadd ps0 qp0)), (.double ps1)] (.double (0 : UInt64)) := f216.other W133 (Ne.symm P74)
  have f218 : Arv Z h187 aP kaP .double (2 : Int32) [(.double (FP.dadd ps0 qp0)), (.double ps1)] (.double (0 : UInt64)) := f217.other W187 P57
  have f219 : Arv Z h205 aP kaP .double (2 : Int32) [(.double (FP.dadd ps0 qp0)), (.double ps1)] (.double (0 : UInt64)) := f218.other W205 P58
  obtain ⟨c220, r220, q220, s220, z220, y220, G220⟩ := id f219
  have hin220 : ¬ ((1 : Int32) < 0 ∨ c220.slots.size ≤ ((1 : Int32)).toNatClampNeg) := inb_of s220 ⟨by decide, by decide⟩
  have hat220 : c220.slots[((1 : Int32)).toNatClampNeg]? = some (.double ps1) := Has.at y220 hin220 rfl
  have pre221 : ∀ t, own_S p e below m T214 216 #[lvR o_, lvR am, lvR ad, lvJ (((0 : Int64) + (x0_.toInt64)) + (x1_.toInt64)), .second, lvJ (((0 : Int64) + (y0_.toInt64)) + (y1_.toInt64)), .second, lvR b9, lvJ (((0 : Int64) + (x0_.toInt64)) + (x1_.toInt64)), .second, lvJ (((0 : Int64) + (hi_.toInt64)) + (lo_.toInt64)), .second, lvI (((0 : Int32) + c0_) + c1_), lvJ (((0 : Int64) + (y0_.toInt64)) + (y1_.toInt64)), .second, lvI (1 : Int32)] [(.double (FP.ddiv (FP.i2d (((0 : Int32) + c0_) + c1_)) (FP.i2d (2 : Int32)))), (.double ps1), (.int (1 : Int32)), (.ref aP)] t → G t := by
    intro t kt
    refine pre204 t ?_
    show own_S p e below m T196 197 #[lvR o_, lvR am, lvR ad, lvJ (((0 : Int64) + (x0_.toInt64)) + (x1_.toInt64)), .second, lvJ (((0 : Int64) + (y0_.toInt64)) + (y1_.toInt64)), .second, lvR b9, lvJ (((0 : Int64) + (x0_.toInt64)) + (x1_.toInt64)), .second, lvJ (((0 : Int64) + (hi_.toInt64)) + (lo_.toInt64)), .second, lvI (((0 : Int32) + c0_) + c1_), lvJ (((0 : Int64) + (y0_.toInt64)) + (y1_.toInt64)), .second, lvI (1 : Int32)] [(.double qh1), (.double rh1), (.int (1 : Int32)), (.ref aH)] _
    refine XS.daddS X196.here hx rfl (hb hby d7_197) rfl mqh1 rfl ?_
    show own_S p e below m T196 198 #[lvR o_, lvR am, lvR ad, lvJ (((0 : Int64) + (x0_.toInt64)) + (x1_.toInt64)), .second, lvJ (((0 : Int64) + (y0_.toInt64)) + (y1_.toInt64)), .second, lvR b9, lvJ (((0 : Int64) + (x0_.toInt64)) + (x1_.toInt64)), .second, lvJ (((0 : Int64) + (hi_.toInt64)) + (lo_.toInt64)), .second, lvI (((0 : Int32) + c0_) + c1_), lvJ (((0 : Int64) + (y0_.toInt64)) + (y1_.toInt64)), .second, lvI (1 : Int32)] [(.double (FP.dadd rh1 qh1)), (.int (1 : Int32)), (.ref aH)] _
    refine st205 _ ?_
    refine XS.aloadN X205.here hx rfl (hb hby d7_199) rfl rfl ?_
    show own_S p e below m T205 200 #[lvR o_, lvR am, lvR ad, lvJ (((0 : Int64) + (x0_.toInt64)) + (x1_.toInt64)), .second, lvJ (((0 : Int64) + (y0_.toInt64)) + (y1_.toInt64)), .second, lvR b9, lvJ (((0 : Int64) + (x0_.toInt64)) + (x1_.toInt64)), .second, lvJ (((0 : Int64) + (hi_.toInt64)) + (lo_.toInt64)), .second, lvI (((0 : Int32) + c0_) + c1_), lvJ (((0 : Int64) + (y0_.toInt64)) + (y1_.toInt64)), .second, lvI (1 : Int32)] [(.ref o_)] _
    refine st214 _ ?_
    refine XS.iload X214.here hx rfl (hb hby d7_203) rfl ?_
    refine XT.dup2 X214.here hx rfl (hb hby d7_205) rfl rfl rfl ?_
    show own_S p e below m T214 206 #[lvR o_, lvR am, lvR ad, lvJ (((0 : Int64) + (x0_.toInt64)) + (x1_.toInt64)), .second, lvJ (((0 : Int64) + (y0_.toInt64)) + (y1_.toInt64)), .second, lvR b9, lvJ (((0 : Int64) + (x0_.toInt64)) + (x1_.toInt64)), .second, lvJ (((0 : Int64) + (hi_.toInt64)) + (lo_.toInt64)), .second, lvI (((0 : Int32) + c0_) + c1_), lvJ (((0 : Int64) + (y0_.toInt64)) + (y1_.toInt64)), .second, lvI (1 : Int32)] [(.int (1 : Int32)), (.ref aP), (.int (1 : Int32)), (.ref aP)] _
    refine X214.daload hx (j := (1 : Int32)) (v := (.double ps1)) (by rw [e214]; exact r220.1) (State.isArrayOf_alike hZ.alike r220.2.1) r220.2.2 hin220 hat220 (g := (mkF m 206 #[lvR o_, lvR am, lvR ad, lvJ (((0 : Int64) + (x0_.toInt64)) + (x1_.toInt64)), .second, lvJ (((0 : Int64) + (y0_.toInt64)) + (y1_.toInt64)), .second, lvR b9, lvJ (((0 : Int64) + (x0_.toInt64)) + (x1_.toInt64)), .second, lvJ (((0 : Int64) + (hi_.toInt64)) + (lo_.toInt64)), .second, lvI (((0 : Int32) + c0_) + c1_), lvJ (((0 : Int64) + (y0_.toInt64)) + (y1_.toInt64)), .second, lvI (1 : Int32)] [(.int (1 : Int32)), (.ref aP), (.int (1 : Int32)), (.ref aP)])) rfl rfl (hb hby d7_206) _ ?_
    refine XS.iload X214.here hx rfl (hb hby d7_207) rfl ?_
    refine XS.i2dS X214.here hx rfl (hb hby d7_209) rfl rfl ?_
    refine XS.iload X214.here hx rfl (hb hby d7_210) rfl ?_
    refine XS.iconst X214.here hx rfl (hb hby d7_212) ?_
    refine XS.iadd X214.here hx rfl (hb hby d7_213) rfl ?_
    refine XS.i2dS X214.here hx rfl (hb hby d7_214) rfl rfl ?_
    refine XS.ddivS X214.here hx rfl (hb hby d7_215) rfl nqp1 rfl ?_
    exact kt
  have pre222 : ∀ t, own_S p e below m T214 216 #[lvR o_, lvR am, lvR ad, lvJ (((0 : Int64) + (x0_.toInt64)) + (x1_.toInt64)), .second, lvJ (((0 : Int64) + (y0_.toInt64)) + (y1_.toInt64)), .second, lvR b9, lvJ (((0 : Int64) + (x0_.toInt64)) + (x1_.toInt64)), .second, lvJ (((0 : Int64) + (hi_.toInt64)) + (lo_.toInt64)), .second, lvI (((0 : Int32) + c0_) + c1_), lvJ (((0 : Int64) + (y0_.toInt64)) + (y1_.toInt64)), .second, lvI (1 : Int32)] [(.double qp1), (.double ps1), (.int (1 : Int32)), (.ref aP)] t → G t := fun t kt => pre221 t (by rw [eqp1]; exact kt)
  obtain ⟨c223, r223, q223, s223, z223, y223, G223⟩ := id f219
  have hin223 : ¬ ((1 : Int32) < 0 ∨ c223.slots.size ≤ ((1 : Int32)).toNatClampNeg) := inb_of s223 ⟨by decide, by decide⟩
  obtain ⟨T223, h223, X223, e223, W223, st223⟩ := stD X214 hx hZ e214 r223 (j := (1 : Int32)) hin223 (g := (mkF m 217 #[lvR o_, lvR am, lvR ad, lvJ (((0 : Int64) + (x0_.toInt64)) + (x1_.toInt64)), .second, lvJ (((0 : Int64) + (y0_.toInt64)) + (y1_.toInt64)), .second, lvR b9, lvJ (((0 : Int64) + (x0_.toInt64)) + (x1_.toInt64)), .second, lvJ (((0 : Int64) + (hi_.toInt64)) + (lo_.toInt64)), .second, lvI (((0 : Int32) + c0_) + c1_), lvJ (((0 : Int64) + (y0_.toInt64)) + (y1_.toInt64)), .second, lvI (1 : Int32)] [(.double (FP.dadd ps1 qp1)), (.int (1 : Int32)), (.ref aP)])) rfl rfl (hb hby d7_217)
  have N224 := Fr.snoc X223 N206 P59
  have f225 : Arv Z h223 aP kaP .double (2 : Int32) [(.double (FP.dadd ps0 qp0)), (.double (FP.dadd ps1 qp1))] (.double (0 : UInt64)) := Arv.set r223 q223 s223 z223 y223 G223 rfl W223 1 rfl (Nat.le_of_ble_eq_true rfl)
  have f226 : Fld Z h95 o_ cn1 "cpSums" "[D" (.ref aC) := f84.other W95 (Or.inl P65)
  have f227 : Fld Z h113 o_ cn1 "cpSums" "[D" (.ref aC) := f226.other W113 (Or.inl P71)
  have f228 : Fld Z h133 o_ cn1 "cpSums" "[D" (.ref aC) := f227.other W133 (Or.inl P78)
  have f229 : Fld Z h187 o_ cn1 "cpSums" "[D" (.ref aC) := f228.other W187 (Or.inl P53)
  have f230 : Fld Z h205 o_ cn1 "cpSums" "[D" (.ref aC) := f229.other W205 (Or.inl P56)
  have f231 : Fld Z h223 o_ cn1 "cpSums" "[D" (.ref aC) := f230.other W223 (Or.inl P60)
  obtain ⟨T232, X232, e232, st232⟩ := getF X223 hx hZ hown (host := "") (Or.inl (own_w hw 20 rfl)) Via.refl e223 f231 (g := (mkF m 219 #[lvR o_, lvR am, lvR ad, lvJ (((0 : Int64) + (x0_.toInt64)) + (x1_.toInt64)), .second, lvJ (((0 : Int64) + (y0_.toInt64)) + (y1_.toInt64)), .second, lvR b9, lvJ (((0 : Int64) + (x0_.toInt64)) + (x1_.toInt64)), .second, lvJ (((0 : Int64) + (hi_.toInt64)) + (lo_.toInt64)), .second, lvI (((0 : Int32) + c0_) + c1_), lvJ (((0 : Int64) + (y0_.toInt64)) + (y1_.toInt64)), .second, lvI (1 : Int32)] [(.ref o_)])) rfl rfl (hb hby d7_219)
  have f233 : Arv Z h113 aC kaC .double (2 : Int32) [(.double (FP.dadd cs0 qc0)), (.double cs1)] (.double (0 : UInt64)) := f97.other W113 (Ne.symm P69)
  have f234 : Arv Z h133 aC kaC .double (2 : Int32) [(.double (FP.dadd cs0 qc0)), (.double cs1)] (.double (0 : UInt64)) := f233.other W133 (Ne.symm P75)
  have f235 : Arv Z h187 aC kaC .double (2 : Int32) [(.double (FP.dadd cs0 qc0)), (.double cs1)] (.double (0 : UInt64)) := f234.other W187 P61
  have f236 : Arv Z h205 aC kaC .double (2 : Int32) [(.double (FP.dadd cs0 qc0)), (.double cs1)] (.double (0 : UInt64)) := f235.other W205 P62
  have f237 : Arv Z h223 aC kaC .double (2 : Int32) [(.double (FP.dadd cs0 qc0)), (.double cs1)] (.double (0 : UInt64)) := f236.other W223 P63
  obtain ⟨c238, r238, q238, s238, z238, y238, G238⟩ := id f237
  have hin238 : ¬ ((1 : Int32) < 0 ∨ c238.slots.size ≤ ((1 : Int32)).toNatClampNeg) := inb_of s238 ⟨by decide, by decide⟩
  have hat238 : c238.slots[((1 : Int32)).toNatClampNeg]? = some (.double cs1) := Has.at y238 hin238 rfl
  have pre239 : ∀ t, own_S p e below m T232 233 #[lvR o_, lvR am, lvR ad, lvJ (((0 : Int64) + (x0_.toInt64)) + (x1_.toInt64)), .second, lvJ (((0 : Int64) + (y0_.toInt64)) + (y1_.toInt64)), .second, lvR b9, lvJ (((0 : Int64) + (x0_.toInt64)) + (x1_.toInt64)), .second, lvJ (((0 : Int64) + (hi_.toInt64)) + (lo_.toInt64)), .second, lvI (((0 : Int32) + c0_) + c1_), lvJ (((0 : Int64) + (y0_.toInt64)) + (y1_.toInt64)), .second, lvI (1 : Int32)] [(.double (FP.ddiv (FP.l2d (((0 : Int64) + (y0_.toInt64)) + (y1_.toInt64))) (FP.l2d (((0 : Int64) + (y0_.toInt64)) + (y1_.toInt64))))), (.double cs1), (.int (1 : Int32)), (.ref aC)] t → G t := by
    intro t kt
    refine pre222 t ?_
    show own_S p e below m T214 216 #[lvR o_, lvR am, lvR ad, lvJ (((0 : Int64) + (x0_.toInt64)) + (x1_.toInt64)), .second, lvJ (((0 : Int64) + (y0_.toInt64)) + (y1_.toInt64)), .second, lvR b9, lvJ (((0 : Int64) + (x0_.toInt64)) + (x1_.toInt64)), .second, lvJ (((0 : Int64) + (hi_.toInt64)) + (lo_.toInt64)), .second, lvI (((0 : Int32) + c0_) + c1_), lvJ (((0 : Int64) + (y0_.toInt64)) + (y1_.toInt64)), .second, lvI (1 : Int32)] [(.double qp1), (.double ps1), (.int (1 : Int32)), (.ref aP)] _
    refine XS.daddS X214.here hx rfl (hb hby d7_216) rfl mqp1 rfl ?_
    show own_S p e below m T214 217 #[lvR o_, lvR am, lvR ad, lvJ (((0 : Int64) + (x0_.toInt64)) + (x1_.toInt64)), .second, lvJ (((0 : Int64) + (y0_.toInt64)) + (y1_.toInt64)), .second, lvR b9, lvJ (((0 : Int64) + (x0_.toInt64)) + (x1_.toInt64)), .second, lvJ (((0 : Int64) + (hi_.toInt64)) + (lo_.toInt64)), .second, lvI (((0 : Int32) + c0_) + c1_), lvJ (((0 : Int64) + (y0_.toInt64)) + (y1_.toInt64)), .second, lvI (1 : Int32)] [(.double (FP.dadd ps1 qp1)), (.int (1 : Int32)), (.ref aP)] _
    refine st223 _ ?_
    refine XS.aloadN X223.here hx rfl (hb hby d7_218) rfl rfl ?_
    show own_S p e below m T223 219 #[lvR o_, lvR am, lvR ad, lvJ (((0 : Int64) + (x0_.toInt64)) + (x1_.toInt64)), .second, lvJ (((0 : Int64) + (y0_.toInt64)) + (y1_.toInt64)), .second, lvR b9, lvJ (((0 : Int64) + (x0_.toInt64)) + (x1_.toInt64)), .second, lvJ (((0 : Int64) + (hi_.toInt64)) + (lo_.toInt64)), .second, lvI (((0 : Int32) + c0_) + c1_), lvJ (((0 : Int64) + (y0_.toInt64)) + (y1_.toInt64)), .second, lvI (1 : Int32)] [(.ref o_)] _
    refine st232 _ ?_
    refine XS.iload X232.here hx rfl (hb hby d7_222) rfl ?_
    refine XT.dup2 X232.here hx rfl (hb hby d7_224) rfl rfl rfl ?_
    show own_S p e below m T232 225 #[lvR o_, lvR am, lvR ad, lvJ (((0 : Int64) + (x0_.toInt64)) + (x1_.toInt64)), .second, lvJ (((0 : Int64) + (y0_.toInt64)) + (y1_.toInt64)), .second, lvR b9, lvJ (((0 : Int64) + (x0_.toInt64)) + (x1_.toInt64)), .second, lvJ (((0 : Int64) + (hi_.toInt64)) + (lo_.toInt64)), .second, lvI (((0 : Int32) + c0_) + c1_), lvJ (((0 : Int64) + (y0_.toInt64)) + (y1_.toInt64)), .second, lvI (1 : Int32)] [(.int (1 : Int32)), (.ref aC), (.int (1 : Int32)), (.ref aC)] _
    refine X232.daload hx (j := (1 : Int32)) (v := (.double cs1)) (by rw [e232]; exact r238.1) (State.isArrayOf_alike hZ.alike r238.2.1) r238.2.2 hin238 hat238 (g := (mkF m 225 #[lvR o_, lvR am, lvR ad, lvJ (((0 : Int64) + (x0_.toInt64)) + (x1_.toInt64)), .second, lvJ (((0 : Int64) + (y0_.toInt64)) + (y1_.toInt64)), .second, lvR b9, lvJ (((0 : Int64) + (x0_.toInt64)) + (x1_.toInt64)), .second, lvJ (((0 : Int64) + (hi_.toInt64)) + (lo_.toInt64)), .second, lvI (((0 : Int32) + c0_) + c1_), lvJ (((0 : Int64) + (y0_.toInt64)) + (y1_.toInt64)), .second, lvI (1 : Int32)] [(.int (1 : Int32)), (.ref aC), (.int (1 : Int32)), (.ref aC)])) rfl rfl (hb hby d7_225) _ ?_
    refine XS.lload X232.here hx rfl (hb hby d7_226) rfl ?_
    refine XS.l2dS X232.here hx rfl (hb hby d7_228) rfl rfl ?_
    refine XS.lload X232.here hx rfl (hb hby d7_229) rfl ?_
    refine XS.l2dS X232.here hx rfl (hb hby d7_231) rfl rfl ?_
    refine XS.ddivS X232.here hx rfl (hb hby d7_232) rfl nqc1 rfl ?_
    exact kt
  have pre240 : ∀ t, own_S p e below m T232 233 #[lvR o_, lvR am, lvR ad, lvJ (((0 : Int64) + (x0_.toInt64)) + (x1_.toInt64)), .second, lvJ (((0 : Int64) + (y0_.toInt64)) + (y1_.toInt64)), .second, lvR b9, lvJ (((0 : Int64) + (x0_.toInt64)) + (x1_.toInt64)), .second, lvJ (((0 : Int64) + (hi_.toInt64)) + (lo_.toInt64)), .second, lvI (((0 : Int32) + c0_) + c1_), lvJ (((0 : Int64) + (y0_.toInt64)) + (y1_.toInt64)), .second, lvI (1 : Int32)] [(.double qc1), (.double cs1), (.int (1 : Int32)), (.ref aC)] t → G t := fun t kt => pre239 t (by rw [eqc1]; exact kt)
  obtain ⟨c241, r241, q241, s241, z241, y241, G241⟩ := id f237
  have hin241 : ¬ ((1 : Int32) < 0 ∨ c241.slots.size ≤ ((1 : Int32)).toNatClampNeg) := inb_of s241 ⟨by decide, by decide⟩
  obtain ⟨T241, h241, X241, e241, W241, st241⟩ := stD X232 hx hZ e232 r241 (j := (1 : Int32)) hin241 (g := (mkF m 234 #[lvR o_, lvR am, lvR ad, lvJ (((0 : Int64) + (x0_.toInt64)) + (x1_.toInt64)), .second, lvJ (((0 : Int64) + (y0_.toInt64)) + (y1_.toInt64)), .second, lvR b9, lvJ (((0 : Int64) + (x0_.toInt64)) + (x1_.toInt64)), .second, lvJ (((0 : Int64) + (hi_.toInt64)) + (lo_.toInt64)), .second, lvI (((0 : Int32) + c0_) + c1_), lvJ (((0 : Int64) + (y0_.toInt64)) + (y1_.toInt64)), .second, lvI (1 : Int32)] [(.double (FP.dadd cs1 qc1)), (.int (1 : Int32)), (.ref aC)])) rfl rfl (hb hby d7_234)
  have N242 := Fr.snoc X241 N224 P64
  have f243 : Arv Z h241 aC kaC .double (2 : Int32) [(.double (FP.dadd cs0 qc0)), (.double (FP.dadd cs1 qc1))] (.double (0 : UInt64)) := Arv.set r241 q241 s241 z241 y241 G241 rfl W241 1 rfl (Nat.le_of_ble_eq_true rfl)
  have f244 : Fld Z h113 o_ cn1 "found" "[J" (.ref aF) := f103.other W113 (Or.inl P71)
  have f245 : Fld Z h133 o_ cn1 "found" "[J" (.ref aF) := f244.other W133 (Or.inl P78)
  have f246 : Fld Z h187 o_ cn1 "found" "[J" (.ref aF) := f245.other W187 (Or.inl P53)
  have f247 : Fld Z h205 o_ cn1 "found" "[J" (.ref aF) := f246.other W205 (Or.inl P56)
  have f248 : Fld Z h223 o_ cn1 "found" "[J" (.ref aF) := f247.other W223 (Or.inl P60)
  have f249 : Fld Z h241 o_ cn1 "found" "[J" (.ref aF) := f248.other W241 (Or.inl P65)
  obtain ⟨T250, X250, e250, st250⟩ := getF X241 hx hZ hown (host := "") (Or.inl (own_w hw 23 rfl)) Via.refl e241 f249 (g := (mkF m 236 #[lvR o_, lvR am, lvR ad, lvJ (((0 : Int64) + (x0_.toInt64)) + (x1_.toInt64)), .second, lvJ (((0 : Int64) + (y0_.toInt64)) + (y1_.toInt64)), .second, lvR b9, lvJ (((0 : Int64) + (x0_.toInt64)) + (x1_.toInt64)), .second, lvJ (((0 : Int64) + (hi_.toInt64)) + (lo_.toInt64)), .second, lvI (((0 : Int32) + c0_) + c1_), lvJ (((0 : Int64) + (y0_.toInt64)) + (y1_.toInt64)), .second, lvI (1 : Int32)] [(.ref o_)])) rfl rfl (hb hby d7_236)
  have f251 : Arv Z h133 aF kaF .long (2 : Int32) [(.long (fo0 + ((0 : Int64) + (x0_.toInt64)))), (.long fo1)] (.long (0 : Int64)) := f115.other W133 (Ne.symm P76)
  have f252 : Arv Z h187 aF kaF .long (2 : Int32) [(.long (fo0 + ((0 : Int64) + (x0_.toInt64)))), (.long fo1)] (.long (0 : Int64)) := f251.other W187 P66
  have f253 : Arv Z h205 aF kaF .long (2 : Int32) [(.long (fo0 + ((0 : Int64) + (x0_.toInt64)))), (.long fo1)] (.long (0 : Int64)) := f252.other W205 P67
  have f254 : Arv Z h223 aF kaF .long (2 : Int32) [(.long (fo0 + ((0 : Int64) + (x0_.toInt64)))), (.long fo1)] (.long (0 : Int64)) := f253.other W223 P68
  have f255 : Arv Z h241 aF kaF .long (2 : Int32) [(.long (fo0 + ((0 : Int64) + (x0_.toInt64)))), (.long fo1)] (.long (0 : Int64)) := f254.other W241 P69
  obtain ⟨c256, r256, q256, s256, z256, y256, G256⟩ := id f255
  have hin256 : ¬ ((1 : Int32) < 0 ∨ c256.slots.size ≤ ((1 : Int32)).toNatClampNeg) := inb_of s256 ⟨by decide, by decide⟩
  have hat256 : c256.slots[((1 : Int32)).toNatClampNeg]? = some (.long fo1) := Has.at y256 hin256 rfl
  obtain ⟨c257, r257, q257, s257, z257, y257, G257⟩ := id f255
  have hin257 : ¬ ((1 : Int32) < 0 ∨ c257.slots.size ≤ ((1 : Int32)).toNatClampNeg) := inb_of s257 ⟨by decide, by decide⟩
  obtain ⟨T257, h257, X257, e257, W257, st257⟩ := stJ X250 hx hZ e250 r257 (j := (1 : Int32)) hin257 (g := (mkF m 246 #[lvR o_, lvR am, lvR ad, lvJ (((0 : Int64) + (x0_.toInt64)) + (x1_.toInt64)), .second, lvJ (((0 : Int64) + (y0_.toInt64)) + (y1_.toInt64)), .second, lvR b9, lvJ (((0 : Int64) + (x0_.toInt64)) + (x1_.toInt64)), .second, lvJ (((0 : Int64) + (hi_.toInt64)) + (lo_.toInt64)), .second, lvI (((0 : Int32) + c0_) + c1_), lvJ (((0 : Int64) + (y0_.toInt64)) + (y1_.toInt64)), .second, lvI (1 : Int32)] [(.long (fo1 + (((0 : Int64) + (x0_.toInt64)) + (x1_.toInt64)))), (.int (1 : Int32)), (.ref aF)])) rfl rfl (hb hby d7_246)
  have N258 := Fr.snoc X257 N242 P70
  have f259 : Arv Z h257 aF kaF .long (2 : Int32) [(.long (fo0 + ((0 : Int64) + (x0_.toInt64)))), (.long (fo1 + (((0 : Int64) + (x0_.toInt64)) + (x1_.toInt64))))] (.long (0 : Int64)) := Arv.set r257 q257 s257 z257 y257 G257 rfl W257 1 rfl (Nat.le_of_ble_eq_true rfl)
  have f260 : Fld Z h133 o_ cn1 "best" "[J" (.ref aB) := f122.other W133 (Or.inl P78)
  have f261 : Fld Z h187 o_ cn1 "best" "[J" (.ref aB) := f260.other W187 (Or.inl P53)
  have f262 : Fld Z h205 o_ cn1 "best" "[J" (.ref aB) := f261.other W205 (Or.inl P56)
  have f263 : Fld Z h223 o_ cn1 "best" "[J" (.ref aB) := f262.other W223 (Or.inl P60)
  have f264 : Fld Z h241 o_ cn1 "best" "[J" (.ref aB) := f263.other W241 (Or.inl P65)
  have f265 : Fld Z h257 o_ cn1 "best" "[J" (.ref aB) := f264.other W257 (Or.inl P71)
  obtain ⟨T266, X266, e266, st266⟩ := getF X257 hx hZ hown (host := "") (Or.inl (own_w hw 25 rfl)) Via.refl e257 f265 (g := (mkF m 248 #[lvR o_, lvR am, lvR ad, lvJ (((0 : Int64) + (x0_.toInt64)) + (x1_.toInt64)), .second, lvJ (((0 : Int64) + (y0_.toInt64)) + (y1_.toInt64)), .second, lvR b9, lvJ (((0 : Int64) + (x0_.toInt64)) + (x1_.toInt64)), .second, lvJ (((0 : Int64) + (hi_.toInt64)) + (lo_.toInt64)), .second, lvI (((0 : Int32) + c0_) + c1_), lvJ (((0 : Int64) + (y0_.toInt64)) + (y1_.toInt64)), .second, lvI (1 : Int32)] [(.ref o_)])) rfl rfl (hb hby d7_248)
  have f267 : Arv Z h187 aB kaB .long (2 : Int32) [(.long (be0 + ((0 : Int64) + (hi_.toInt64)))), (.long be1)] (.long (0 : Int64)) := f135.other W187 P72
  have f268 : Arv Z h205 aB kaB .long (2 : Int32) [(.long (be0 + ((0 : Int64) + (hi_.toInt64)))), (.long be1)] (.long (0 : Int64)) := f267.other W205 P73
  have f269 : Arv Z h223 aB kaB .long (2 : Int32) [(.long (be0 + ((0 : Int64) + (hi_.toInt64)))), (.long be1)] (.long (0 : Int64)) := f268.other W223 P74
  have f270 : Arv Z h241 aB kaB .long (2 : Int32) [(.long (be0 + ((0 : Int64) + (hi_.toInt64)))), (.long be1)] (.long (0 : Int64)) := f269.other W241 P75
  have f271 : Arv Z h257 aB kaB .long (2 : Int32) [(.long (be0 + ((0 : Int64) + (hi_.toInt64)))), (.long be1)] (.long (0 : Int64)) := f270.other W257 P76
  obtain ⟨c272, r272, q272, s272, z272, y272, G272⟩ := id f271
  have hin272 : ¬ ((1 : Int32) < 0 ∨ c272.slots.size ≤ ((1 : Int32)).toNatClampNeg) := inb_of s272 ⟨by decide, by decide⟩
  have hat272 : c272.slots[((1 : Int32)).toNatClampNeg]? = some (.long be1) := Has.at y272 hin272 rfl
  obtain ⟨c273, r273, q273, s273, z273, y273, G273⟩ := id f271
  have hin273 : ¬ ((1 : Int32) < 0 ∨ c273.slots.size ≤ ((1 : Int32)).toNatClampNeg) := inb_of s273 ⟨by decide, by decide⟩
  obtain ⟨T273, h273, X273, e273, W273, st273⟩ := stJ X266 hx hZ e266 r273 (j := (1 : Int32)) hin273 (g := (mkF m 258 #[lvR o_, lvR am, lvR ad, lvJ (((0 : Int64) + (x0_.toInt64)) + (x1_.toInt64)), .second, lvJ (((0 : Int64) + (y0_.toInt64)) + (y1_.toInt64)), .second, lvR b9, lvJ (((0 : Int64) + (x0_.toInt64)) + (x1_.toInt64)), .second, lvJ (((0 : Int64) + (hi_.toInt64)) + (lo_.toInt64)), .second, lvI (((0 : Int32) + c0_) + c1_), lvJ (((0 : Int64) + (y0_.toInt64)) + (y1_.toInt64)), .second, lvI (1 : Int32)] [(.long (be1 + (((0 : Int64) + (hi_.toInt64)) + (lo_.toInt64)))), (.int (1 : Int32)), (.ref aB)])) rfl rfl (hb hby d7_258)
  have N274 := Fr.snoc X273 N258 P77
  have f275 : Arv Z h273 aB kaB .long (2 : Int32) [(.long (be0 + ((0 : Int64) + (hi_.toInt64)))), (.long (be1 + (((0 : Int64) + (hi_.toInt64)) + (lo_.toInt64))))] (.long (0 : Int64)) := Arv.set r273 q273 s273 z273 y273 G273 rfl W273 1 rfl (Nat.le_of_ble_eq_true rfl)
  have f276 : Fld Z h187 o_ cn1 "collections" "I" (.int (2 : Int32)) := f141.other W187 (Or.inl P53)
  have f277 : Fld Z h205 o_ cn1 "collections" "I" (.int (2 : Int32)) := f276.other W205 (Or.inl P56)
  have f278 : Fld Z h223 o_ cn1 "collections" "I" (.int (2 : Int32)) := f277.other W223 (Or.inl P60)
  have f279 : Fld Z h241 o_ cn1 "collections" "I" (.int (2 : Int32)) := f278.other W241 (Or.inl P65)
  have f280 : Fld Z h257 o_ cn1 "collections" "I" (.int (2 : Int32)) := f279.other W257 (Or.inl P71)
  have f281 : Fld Z h273 o_ cn1 "collections" "I" (.int (2 : Int32)) := f280.other W273 (Or.inl P78)
  obtain ⟨T282, X282, e282, st282⟩ := getF X273 hx hZ hown (host := "") (Or.inl (own_w hw 11 rfl)) Via.refl e273 f281 (g := (mkF m 105 #[lvR o_, lvR am, lvR ad, lvJ (((0 : Int64) + (x0_.toInt64)) + (x1_.toInt64)), .second, lvJ (((0 : Int64) + (y0_.toInt64)) + (y1_.toInt64)), .second, lvR b9, lvJ (((0 : Int64) + (x0_.toInt64)) + (x1_.toInt64)), .second, lvJ (((0 : Int64) + (hi_.toInt64)) + (lo_.toInt64)), .second, lvI (((0 : Int32) + c0_) + c1_), lvJ (((0 : Int64) + (y0_.toInt64)) + (y1_.toInt64)), .second, lvI (2 : Int32)] [(.ref o_), (.int (2 : Int32))])) rfl rfl (hb hby d7_105)
  have f283 : Fld Z h9 o_ cn1 "queries" "I" (.int qu) := P35.ext E9
  have f284 : Fld Z h14 o_ cn1 "queries" "I" (.int qu) := f283.keep K14 (ninS ne19 nin0)
  have f285 : Fld Z h47 o_ cn1 "queries" "I" (.int qu) := f284.other W47 (Or.inl P53)
  have f286 : Fld Z h61 o_ cn1 "queries" "I" (.int qu) := f285.other W61 (Or.inl P56)
  have f287 : Fld Z h77 o_ cn1 "queries" "I" (.int qu) := f286.other W77 (Or.inl P60)
  have f288 : Fld Z h95 o_ cn1 "queries" "I" (.int qu) := f287.other W95 (Or.inl P65)
  have f289 : Fld Z h113 o_ cn1 "queries" "I" (.int qu) := f288.other W113 (Or.inl P71)
  have f290 : Fld Z h133 o_ cn1 "queries" "I" (.int qu) := f289.other W133 (Or.inl P78)
  have f291 : Fld Z h187 o_ cn1 "queries" "I" (.int qu) := f290.other W187 (Or.inl P53)
  have f292 : Fld Z h205 o_ cn1 "queries" "I" (.int qu) := f291.other W205 (Or.inl P56)
  have f293 : Fld Z h223 o_ cn1 "queries" "I" (.int qu) := f292.other W223 (Or.inl P60)
  have f294 : Fld Z h241 o_ cn1 "queries" "I" (.int qu) := f293.other W241 (Or.inl P65)
  have f295 : Fld Z h257 o_ cn1 "queries" "I" (.int qu) := f294.other W257 (Or.inl P71)
  have f296 : Fld Z h273 o_ cn1 "queries" "I" (.int qu) := f295.other W273 (Or.inl P78)
  obtain ⟨T297, X297, e297, st297⟩ := getF X282 hx hZ hown (host := "") (Or.inl (own_w hw 58 rfl)) Via.refl e282 f296 (g := (mkF m 267 #[lvR o_, lvR am, lvR ad, lvJ (((0 : Int64) + (x0_.toInt64)) + (x1_.toInt64)), .second, lvJ (((0 : Int64) + (y0_.toInt64)) + (y1_.toInt64)), .second, lvR b9, lvJ (((0 : Int64) + (x0_.toInt64)) + (x1_.toInt64)), .second, lvJ (((0 : Int64) + (hi_.toInt64)) + (lo_.toInt64)), .second, lvI (((0 : Int32) + c0_) + c1_), lvJ (((0 : Int64) + (y0_.toInt64)) + (y1_.toInt64)), .second, lvI (2 : Int32)] [(.ref o_), (.ref o_)])) rfl rfl (hb hby d7_267)
  have f298 : Exa Z h9 o_ cn1 := P33.ext E9
  have f299 : Exa Z h14 o_ cn1 := f298.keep K14
  have f300 : Exa Z h47 o_ cn1 := f299.wr W47
  have f301 : Exa Z h61 o_ cn1 := f300.wr W61
  have f302 : Exa Z h77 o_ cn1 := f301.wr W77
  have f303 : Exa Z h95 o_ cn1 := f302.wr W95
  have f304 : Exa Z h113 o_ cn1 := f303.wr W113
  have f305 : Exa Z h133 o_ cn1 := f304.wr W133
  have f306 : Exa Z h187 o_ cn1 := f305.wr W187
  have f307 : Exa Z h205 o_ cn1 := f306.wr W205
  have f308 : Exa Z h223 o_ cn1 := f307.wr W223
  have f309 : Exa Z h241 o_ cn1 := f308.wr W241
  have f310 : Exa Z h257 o_ cn1 := f309.wr W257
  have f311 : Exa Z h273 o_ cn1 := f310.wr W273
  obtain ⟨T312, h312, X312, e312, W312, st312⟩ := putF X297 hx hZ hown (host := "") (Or.inl (own_w hw 58 rfl)) Via.refl e297 f296 f311 (Or.inl (own_w hw 59 rfl)) (own_w hw 3 rfl) (ty := .int) (by decide) rfl rfl (g := (mkF m 272 #[lvR o_, lvR am, lvR ad, lvJ (((0 : Int64) + (x0_.toInt64)) + (x1_.toInt64)), .second, lvJ (((0 : Int64) + (y0_.toInt64)) + (y1_.toInt64)), .second, lvR b9, lvJ (((0 : Int64) + (x0_.toInt64)) + (x1_.toInt64)), .second, lvJ (((0 : Int64) + (hi_.toInt64)) + (lo_.toInt64)), .second, lvI (((0 : Int32) + c0_) + c1_), lvJ (((0 : Int64) + (y0_.toInt64)) + (y1_.toInt64)), .second, lvI (2 : Int32)] [(.int (qu + (1 : Int32))), (.ref o_)])) rfl rfl (hb hby d7_272)
  have N313 := Fr.snoc X312 N274 P91
  have f314 : Fld Z h312 o_ cn1 "queries" "I" (.int (qu + (1 : Int32))) := f296.same W312
  have f315 : Fld Z h9 o_ cn1 "relevant" "J" (.long rel) := P36.ext E9
  have f316 : Fld Z h14 o_ cn1 "relevant" "J" (.long rel) := f315.keep K14 (ninS ne19 nin0)
  have f317 : Fld Z h47 o_ cn1 "relevant" "J" (.long rel) := f316.other W47 (Or.inl P53)
  have f318 : Fld Z h61 o_ cn1 "relevant" "J" (.long rel) := f317.other W61 (Or.inl P56)
  have f319 : Fld Z h77 o_ cn1 "relevant" "J" (.long rel) := f318.other W77 (Or.inl P60)
  have f320 : Fld Z h95 o_ cn1 "relevant" "J" (.long rel) := f319.other W95 (Or.inl P65)
  have f321 : Fld Z h113 o_ cn1 "relevant" "J" (.long rel) := f320.other W113 (Or.inl P71)
  have f322 : Fld Z h133 o_ cn1 "relevant" "J" (.long rel) := f321.other W133 (Or.inl P78)
  have f323 : Fld Z h187 o_ cn1 "relevant" "J" (.long rel) := f322.other W187 (Or.inl P53)
  have f324 : Fld Z h205 o_ cn1 "relevant" "J" (.long rel) := f323.other W205 (Or.inl P56)
  have f325 : Fld Z h223 o_ cn1 "relevant" "J" (.long rel) := f324.other W223 (Or.inl P60)
  have f326 : Fld Z h241 o_ cn1 "relevant" "J" (.long rel) := f325.other W241 (Or.inl P65)
  have f327 : Fld Z h257 o_ cn1 "relevant" "J" (.long rel) := f326.other W257 (Or.inl P71)
  have f328 : Fld Z h273 o_ cn1 "relevant" "J" (.long rel) := f327.other W273 (Or.inl P78)
  have f329 : Fld Z h312 o_ cn1 "relevant" "J" (.long rel) := f328.other W312 (Or.inr (slot_ne (Or.inl (own_w hw 61 rfl)) (Or.inl (own_w hw 59 rfl)) (by decide) (t := .long) (t' := .int) (by decide) (by decide)))
  obtain ⟨T330, X330, e330, st330⟩ := getF X312 hx hZ hown (host := "") (Or.inl (own_w hw 60 rfl)) Via.refl e312 f329 (g := (mkF m 277 #[lvR o_, lvR am, lvR ad, lvJ (((0 : Int64) + (x0_.toInt64)) + (x1_.toInt64)), .second, lvJ (((0 : Int64) + (y0_.toInt64)) + (y1_.toInt64)), .second, lvR b9, lvJ (((0 : Int64) + (x0_.toInt64)) + (x1_.toInt64)), .second, lvJ (((0 : Int64) + (hi_.toInt64)) + (lo_.toInt64)), .second, lvI (((0 : Int32) + c0_) + c1_), lvJ (((0 : Int64) + (y0_.toInt64)) + (y1_.toInt64)), .second, lvI (2 : Int32)] [(.ref o_), (.ref o_)])) rfl rfl (hb hby d7_277)
  have f331 : Exa Z h312 o_ cn1 := f311.wr W312
  obtain ⟨T332, h332, X332, e332, W332, st332⟩ := putF X330 hx hZ hown (host := "") (Or.inl (own_w hw 60 rfl)) Via.refl e330 f329 f331 (Or.inl (own_w hw 61 rfl)) (own_w hw 3 rfl) (ty := .long) (by decide) rfl rfl (g := (mkF m 282 #[lvR o_, lvR am, lvR ad, lvJ (((0 : Int64) + (x0_.toInt64)) + (x1_.toInt64)), .second, lvJ (((0 : Int64) + (y0_.toInt64)) + (y1_.toInt64)), .second, lvR b9, lvJ (((0 : Int64) + (x0_.toInt64)) + (x1_.toInt64)), .second, lvJ (((0 : Int64) + (hi_.toInt64)) + (lo_.toInt64)), .second, lvI (((0 : Int32) + c0_) + c1_), lvJ (((0 : Int64) + (y0_.toInt64)) + (y1_.toInt64)), .second, lvI (2 : Int32)] [(.long (rel + (((0 : Int64) + (x0_.toInt64)) + (x1_.toInt64)))), (.ref o_)])) rfl rfl (hb hby d7_282)
  have N333 := Fr.snoc X332 N313 P91
  have f334 : Fld Z h332 o_ cn1 "relevant" "J" (.long (rel + (((0 : Int64) + (x0_.toInt64)) + (x1_.toInt64)))) := f329.same W332
  have pre335 : ∀ t, own_S p e below m T332 285 #[lvR o_, lvR am, lvR ad, lvJ (((0 : Int64) + (x0_.toInt64)) + (x1_.toInt64)), .second, lvJ (((0 : Int64) + (y0_.toInt64)) + (y1_.toInt64)), .second, lvR b9, lvJ (((0 : Int64) + (x0_.toInt64)) + (x1_.toInt64)), .second, lvJ (((0 : Int64) + (hi_.toInt64)) + (lo_.toInt64)), .second, lvI (((0 : Int32) + c0_) + c1_), lvJ (((0 : Int64) + (y0_.toInt64)) + (y1_.toInt64)), .second, lvI (2 : Int32)] [] t → G t := by
    intro t kt
    refine pre240 t ?_
    show own_S p e below m T232 233 #[lvR o_, lvR am, lvR ad, lvJ (((0 : Int64) + (x0_.toInt64)) + (x1_.toInt64)), .second, lvJ (((0 : Int64) + (y0_.toInt64)) + (y1_.toInt64)), .second, lvR b9, lvJ (((0 : Int64) + (x0_.toInt64)) + (x1_.toInt64)), .second, lvJ (((0 : Int64) + (hi_.toInt64)) + (lo_.toInt64)), .second, lvI (((0 : Int32) + c0_) + c1_), lvJ (((0 : Int64) + (y0_.toInt64)) + (y1_.toInt64)), .second, lvI (1 : Int32)] [(.double qc1), (.double cs1), (.int (1 : Int32)), (.ref aC)] _
    refine XS.daddS X232.here hx rfl (hb hby d7_233) rfl mqc1 rfl ?_
    show own_S p e below m T232 234 #[lvR o_, lvR am, lvR ad, lvJ (((0 : Int64) + (x0_.toInt64)) + (x1_.toInt64)), .second, lvJ (((0 : Int64) + (y0_.toInt64)) + (y1_.toInt64)), .second, lvR b9, lvJ (((0 : Int64) + (x0_.toInt64)) + (x1_.toInt64)), .second, lvJ (((0 : Int64) + (hi_.toInt64)) + (lo_.toInt64)), .second, lvI (((0 : Int32) + c0_) + c1_), lvJ (((0 : Int64) + (y0_.toInt64)) + (y1_.toInt64)), .second, lvI (1 : Int32)] [(.double (FP.dadd cs1 qc1)), (.int (1 : Int32)), (.ref aC)] _
    refine st241 _ ?_
    refine XS.aloadN X241.here hx rfl (hb hby d7_235) rfl rfl ?_
    show own_S p e below m T241 236 #[lvR o_, lvR am, lvR ad, lvJ (((0 : Int64) + (x0_.toInt64)) + (x1_.toInt64)), .second, lvJ (((0 : Int64) + (y0_.toInt64)) + (y1_.toInt64)), .second, lvR b9, lvJ (((0 : Int64) + (x0_.toInt64)) + (x1_.toInt64)), .second, lvJ (((0 : Int64) + (hi_.toInt64)) + (lo_.toInt64)), .second, lvI (((0 : Int32) + c0_) + c1_), lvJ (((0 : Int64) + (y0_.toInt64)) + (y1_.toInt64)), .second, lvI (1 : Int32)] [(.ref o_)] _
    refine st250 _ ?_
    refine XS.iload X250.here hx rfl (hb hby d7_239) rfl ?_
    refine XT.dup2 X250.here hx rfl (hb hby d7_241) rfl rfl rfl ?_
    show own_S p e below m T250 242 #[lvR o_, lvR am, lvR ad, lvJ (((0 : Int64) + (x0_.toInt64)) + (x1_.toInt64)), .second, lvJ (((0 : Int64) + (y0_.toInt64)) + (y1_.toInt64)), .second, lvR b9, lvJ (((0 : Int64) + (x0_.toInt64)) + (x1_.toInt64)), .second, lvJ (((0 : Int64) + (hi_.toInt64)) + (lo_.toInt64)), .second, lvI (((0 : Int32) + c0_) + c1_), lvJ (((0 : Int64) + (y0_.toInt64)) + (y1_.toInt64)), .second, lvI (1 : Int32)] [(.int (1 : Int32)), (.ref aF), (.int (1 : Int32)), (.ref aF)] _
    refine X250.laload hx (j := (1 : Int32)) (v := (.long fo1)) (by rw [e250]; exact r256.1) (State.isArrayOf_alike hZ.alike r256.2.1) r256.2.2 hin256 hat256 (g := (mkF m 242 #[lvR o_, lvR am, lvR ad, lvJ (((0 : Int64) + (x0_.toInt64)) + (x1_.toInt64)), .second, lvJ (((0 : Int64) + (y0_.toInt64)) + (y1_.toInt64)), .second, lvR b9, lvJ (((0 : Int64) + (x0_.toInt64)) + (x1_.toInt64)), .second, lvJ (((0 : Int64) + (hi_.toInt64)) + (lo_.toInt64)), .second, lvI (((0 : Int32) + c0_) + c1_), lvJ (((0 : Int64) + (y0_.toInt64)) + (y1_.toInt64)), .second, lvI (1 : Int32)] [(.int (1 : Int32)), (.ref aF), (.int (1 : Int32)), (.ref aF)])) rfl rfl (hb hby d7_242) _ ?_
    refine XS.lload X250.here hx rfl (hb hby d7_243) rfl ?_
    refine XS.ladd X250.here hx rfl (hb hby d7_245) rfl ?_
    show own_S p e below m T250 246 #[lvR o_, lvR am, lvR ad, lvJ (((0 : Int64) + (x0_.toInt64)) + (x1_.toInt64)), .second, lvJ (((0 : Int64) + (y0_.toInt64)) + (y1_.toInt64)), .second, lvR b9, lvJ (((0 : Int64) + (x0_.toInt64)) + (x1_.toInt64)), .second, lvJ (((0 : Int64) + (hi_.toInt64)) + (lo_.toInt64)), .second, lvI (((0 : Int32) + c0_) + c1_), lvJ (((0 : Int64) + (y0_.toInt64)) + (y1_.toInt64)), .second, lvI (1 : Int32)] [(.long (fo1 + (((0 : Int64) + (x0_.toInt64)) + (x1_.toInt64)))), (.int (1 : Int32)), (.ref aF)] _
    refine st257 _ ?_
    refine XS.aloadN X257.here hx rfl (hb hby d7_247) rfl rfl ?_
    show own_S p e below m T257 248 #[lvR o_, lvR am, lvR ad, lvJ (((0 : Int64) + (x0_.toInt64)) + (x1_.toInt64)), .second, lvJ (((0 : Int64) + (y0_.toInt64)) + (y1_.toInt64)), .second, lvR b9, lvJ (((0 : Int64) + (x0_.toInt64)) + (x1_.toInt64)), .second, lvJ (((0 : Int64) + (hi_.toInt64)) + (lo_.toInt64)), .second, lvI (((0 : Int32) + c0_) + c1_), lvJ (((0 : Int64) + (y0_.toInt64)) + (y1_.toInt64)), .second, lvI (1 : Int32)] [(.ref o_)] _
    refine st266 _ ?_
    refine XS.iload X266.here hx rfl (hb hby d7_251) rfl ?_
    refine XT.dup2 X266.here hx rfl (hb hby d7_253) rfl rfl rfl ?_
    show own_S p e below m T266 254 #[lvR o_, lvR am, lvR ad, lvJ (((0 : Int64) + (x0_.toInt64)) + (x1_.toInt64)), .second, lvJ (((0 : Int64) + (y0_.toInt64)) + (y1_.toInt64)), .second, lvR b9, lvJ (((0 : Int64) + (x0_.toInt64)) + (x1_.toInt64)), .second, lvJ (((0 : Int64) + (hi_.toInt64)) + (lo_.toInt64)), .second, lvI (((0 : Int32) + c0_) + c1_), lvJ (((0 : Int64) + (y0_.toInt64)) + (y1_.toInt64)), .second, lvI (1 : Int32)] [(.int (1 : Int32)), (.ref aB), (.int (1 : Int32)), (.ref aB)] _
    refine X266.laload hx (j := (1 : Int32)) (v := (.long be1)) (by rw [e266]; exact r272.1) (State.isArrayOf_alike hZ.alike r272.2.1) r272.2.2 hin272 hat272 (g := (mkF m 254 #[lvR o_, lvR am, lvR ad, lvJ (((0 : Int64) + (x0_.toInt64)) + (x1_.toInt64)), .second, lvJ (((0 : Int64) + (y0_.toInt64)) + (y1_.toInt64)), .second, lvR b9, lvJ (((0 : Int64) + (x0_.toInt64)) + (x1_.toInt64)), .second, lvJ (((0 : Int64) + (hi_.toInt64)) + (lo_.toInt64)), .second, lvI (((0 : Int32) + c0_) + c1_), lvJ (((0 : Int64) + (y0_.toInt64)) + (y1_.toInt64)), .second, lvI (1 : Int32)] [(.int (1 : Int32)), (.ref aB), (.int (1 : Int32)), (.ref aB)])) rfl rfl (hb hby d7_254) _ ?_
    refine XS.lload X266.here hx rfl (hb hby d7_255) rfl ?_
    refine XS.ladd X266.here hx rfl (hb hby d7_257) rfl ?_
    show own_S p e below m T266 258 #[lvR o_, lvR am, lvR ad, lvJ (((0 : Int64) + (x0_.toInt64)) + (x1_.toInt64)), .second, lvJ (((0 : Int64) + (y0_.toInt64)) + (y1_.toInt64)), .second, lvR b9, lvJ (((0 : Int64) + (x0_.toInt64)) + (x1_.toInt64)), .second, lvJ (((0 : Int64) + (hi_.toInt64)) + (lo_.toInt64)), .second, lvI (((0 : Int32) + c0_) + c1_), lvJ (((0 : Int64) + (y0_.toInt64)) + (y1_.toInt64)), .second, lvI (1 : Int32)] [(.long (be1 + (((0 : Int64) + (hi_.toInt64)) + (lo_.toInt64)))), (.int (1 : Int32)), (.ref aB)] _
    refine st273 _ ?_
    refine XS.iinc X273.here hx rfl (hb hby d7_259) rfl (l' := #[lvR o_, lvR am, lvR ad, lvJ (((0 : Int64) + (x0_.toInt64)) + (x1_.toInt64)), .second, lvJ (((0 : Int64) + (y0_.toInt64)) + (y1_.toInt64)), .second, lvR b9, lvJ (((0 : Int64) + (x0_.toInt64)) + (x1_.toInt64)), .second, lvJ (((0 : Int64) + (hi_.toInt64)) + (lo_.toInt64)), .second, lvI (((0 : Int32) + c0_) + c1_), lvJ (((0 : Int64) + (y0_.toInt64)) + (y1_.toInt64)), .second, lvI (2 : Int32)]) rfl ?_
    refine XS.goto X273.here hx rfl (pc0 := 262) (pc' := 102) rfl (hb hby d7_262) (by decide) (by decide) ?_
    refine XS.iload X273.here hx rfl (hb hby d7_102) rfl ?_
    refine XS.aloadN X273.here hx rfl (hb hby d7_104) rfl rfl ?_
    show own_S p e below m T273 105 #[lvR o_, lvR am, lvR ad, lvJ (((0 : Int64) + (x0_.toInt64)) + (x1_.toInt64)), .second, lvJ (((0 : Int64) + (y0_.toInt64)) + (y1_.toInt64)), .second, lvR b9, lvJ (((0 : Int64) + (x0_.toInt64)) + (x1_.toInt64)), .second, lvJ (((0 : Int64) + (hi_.toInt64)) + (lo_.toInt64)), .second, lvI (((0 : Int32) + c0_) + c1_), lvJ (((0 : Int64) + (y0_.toInt64)) + (y1_.toInt64)), .second, lvI (2 : Int32)] [(.ref o_), (.int (2 : Int32))] _
    refine st282 _ ?_
    show own_S p e below m T282 108 #[lvR o_, lvR am, lvR ad, lvJ (((0 : Int64) + (x0_.toInt64)) + (x1_.toInt64)), .second, lvJ (((0 : Int64) + (y0_.toInt64)) + (y1_.toInt64)), .second, lvR b9, lvJ (((0 : Int64) + (x0_.toInt64)) + (x1_.toInt64)), .second, lvJ (((0 : Int64) + (hi_.toInt64)) + (lo_.toInt64)), .second, lvI (((0 : Int32) + c0_) + c1_), lvJ (((0 : Int64) + (y0_.toInt64)) + (y1_.toInt64)), .second, lvI (2 : Int32)] [(.int (2 : Int32)), (.int (2 : Int32))] _
    refine XS.icmpYes X282.here hx rfl (pc0 := 108) (pc' := 265) rfl (hb hby d7_108) rfl (flt (by decide : ¬ ((2 : Int32) < (2 : Int32)))).2.1 (by decide) (by decide) ?_
    refine XS.aloadN X282.here hx rfl (hb hby d7_265) rfl rfl ?_
    refine XS.dup X282.here hx rfl (hb hby d7_266) rfl rfl ?_
    show own_S p e below m T282 267 #[lvR o_, lvR am, lvR ad, lvJ (((0 : Int64) + (x0_.toInt64)) + (x1_.toInt64)), .second, lvJ (((0 : Int64) + (y0_.toInt64)) + (y1_.toInt64)), .second, lvR b9, lvJ (((0 : Int64) + (x0_.toInt64)) + (x1_.toInt64)), .second, lvJ (((0 : Int64) + (hi_.toInt64)) + (lo_.toInt64)), .second, lvI (((0 : Int32) + c0_) + c1_), lvJ (((0 : Int64) + (y0_.toInt64)) + (y1_.toInt64)), .second, lvI (2 : Int32)] [(.ref o_), (.ref o_)] _
    refine st297 _ ?_
    refine XS.iconst X297.here hx rfl (hb hby d7_270) ?_
    refine XS.iadd X297.here hx rfl (hb hby d7_271) rfl ?_
    show own_S p e below m T297 272 #[lvR o_, lvR am, lvR ad, lvJ (((0 : Int64) + (x0_.toInt64)) + (x1_.toInt64)), .second, lvJ (((0 : Int64) + (y0_.toInt64)) + (y1_.toInt64)), .second, lvR b9, lvJ (((0 : Int64) + (x0_.toInt64)) + (x1_.toInt64)), .second, lvJ (((0 : Int64) + (hi_.toInt64)) + (lo_.toInt64)), .second, lvI (((0 : Int32) + c0_) + c1_), lvJ (((0 : Int64) + (y0_.toInt64)) + (y1_.toInt64)), .second, lvI (2 : Int32)] [(.int (qu + (1 : Int32))), (.ref o_)] _
    refine st312 _ ?_
    refine XS.aloadN X312.here hx rfl (hb hby d7_275) rfl rfl ?_
    refine XS.dup X312.here hx rfl (hb hby d7_276) rfl rfl ?_
    show own_S p e below m T312 277 #[lvR o_, lvR am, lvR ad, lvJ (((0 : Int64) + (x0_.toInt64)) + (x1_.toInt64)), .second, lvJ (((0 : Int64) + (y0_.toInt64)) + (y1_.toInt64)), .second, lvR b9, lvJ (((0 : Int64) + (x0_.toInt64)) + (x1_.toInt64)), .second, lvJ (((0 : Int64) + (hi_.toInt64)) + (lo_.toInt64)), .second, lvI (((0 : Int32) + c0_) + c1_), lvJ (((0 : Int64) + (y0_.toInt64)) + (y1_.toInt64)), .second, lvI (2 : Int32)] [(.ref o_), (.ref o_)] _
    refine st330 _ ?_
    refine XS.lloadN X330.here hx rfl (hb hby d7_280) rfl ?_
    refine XS.ladd X330.here hx rfl (hb hby d7_281) rfl ?_
    show own_S p e below m T330 282 #[lvR o_, lvR am, lvR ad, lvJ (((0 : Int64) + (x0_.toInt64)) + (x1_.toInt64)), .second, lvJ (((0 : Int64) + (y0_.toInt64)) + (y1_.toInt64)), .second, lvR b9, lvJ (((0 : Int64) + (x0_.toInt64)) + (x1_.toInt64)), .second, lvJ (((0 : Int64) + (hi_.toInt64)) + (lo_.toInt64)), .second, lvI (((0 : Int32) + c0_) + c1_), lvJ (((0 : Int64) + (y0_.toInt64)) + (y1_.toInt64)), .second, lvI (2 : Int32)] [(.long (rel + (((0 : Int64) + (x0_.toInt64)) + (x1_.toInt64)))), (.ref o_)] _
    refine st332 _ ?_
    exact kt
  have f337 : Keep h0 h9 [aR, aH, aP, aC, aF, aB, o_] := K0.ext E9
  have f338 : Keep h0 h14 [aR, aH, aP, aC, aF, aB, o_] := f337.trans K14 (allS (Or.inr sz11) all0)
  have f339 : Keep h0 h47 [aR, aH, aP, aC, aF, aB, o_] := f338.wr W47 (Or.inl (List.mem_of_getElem? (i := 0) rfl))
  have f340 : Keep h0 h61 [aR, aH, aP, aC, aF, aB, o_] := f339.wr W61 (Or.inl (List.mem_of_getElem? (i := 1) rfl))
  have f341 : Keep h0 h77 [aR, aH, aP, aC, aF, aB, o_] := f340.wr W77 (Or.inl (List.mem_of_getElem? (i := 2) rfl))
  have f342 : Keep h0 h95 [aR, aH, aP, aC, aF, aB, o_] := f341.wr W95 (Or.inl (List.mem_of_getElem? (i := 3) rfl))
  have f343 : Keep h0 h113 [aR, aH, aP, aC, aF, aB, o_] := f342.wr W113 (Or.inl (List.mem_of_getElem? (i := 4) rfl))
  have f344 : Keep h0 h133 [aR, aH, aP, aC, aF, aB, o_] := f343.wr W133 (Or.inl (List.mem_of_getElem? (i := 5) rfl))
  have f345 : Keep h0 h187 [aR, aH, aP, aC, aF, aB, o_] := f344.wr W187 (Or.inl (List.mem_of_getElem? (i := 0) rfl))
  have f346 : Keep h0 h205 [aR, aH, aP, aC, aF, aB, o_] := f345.wr W205 (Or.inl (List.mem_of_getElem? (i := 1) rfl))
  have f347 : Keep h0 h223 [aR, aH, aP, aC, aF, aB, o_] := f346.wr W223 (Or.inl (List.mem_of_getElem? (i := 2) rfl))
  have f348 : Keep h0 h241 [aR, aH, aP, aC, aF, aB, o_] := f347.wr W241 (Or.inl (List.mem_of_getElem? (i := 3) rfl))
  have f349 : Keep h0 h257 [aR, aH, aP, aC, aF, aB, o_] := f348.wr W257 (Or.inl (List.mem_of_getElem? (i := 4) rfl))
  have f350 : Keep h0 h273 [aR, aH, aP, aC, aF, aB, o_] := f349.wr W273 (Or.inl (List.mem_of_getElem? (i := 5) rfl))
  have f351 : Keep h0 h312 [aR, aH, aP, aC, aF, aB, o_] := f350.wr W312 (Or.inl (List.mem_of_getElem? (i := 6) rfl))
  have f352 : Keep h0 h332 [aR, aH, aP, aC, aF, aB, o_] := f351.wr W332 (Or.inl (List.mem_of_getElem? (i := 6) rfl))
  have f353 : Exa Z h332 o_ cn1 := f331.wr W332
  have f354 : Fld Z h312 o_ cn1 "collections" "I" (.int (2 : Int32)) := f281.other W312 (Or.inr (slot_ne (Or.inr (own_w hw 12 rfl)) (Or.inl (own_w hw 59 rfl)) (by decide) (t := .int) (t' := .int) (by decide) (by decide)))
  have f355 : Fld Z h332 o_ cn1 "collections" "I" (.int (2 : Int32)) := f354.other W332 (Or.inr (slot_ne (Or.inr (own_w hw 12 rfl)) (Or.inl (own_w hw 61 rfl)) (by decide) (t := .int) (t' := .long) (by decide) (by decide)))
  have f356 : Fld Z h332 o_ cn1 "queries" "I" (.int (qu + (1 : Int32))) := f314.other W332 (Or.inr (slot_ne (Or.inl (own_w hw 59 rfl)) (Or.inl (own_w hw 61 rfl)) (by decide) (t := .int) (t' := .long) (by decide) (by decide)))
  have f357 : Fld Z h187 o_ cn1 "rSums" "[D" (.ref aR) := f177.other W187 (Or.inl P53)
  have f358 : Fld Z h205 o_ cn1 "rSums" "[D" (.ref aR) := f357.other W205 (Or.inl P56)
  have f359 : Fld Z h223 o_ cn1 "rSums" "[D" (.ref aR) := f358.other W223 (Or.inl P60)
  have f360 : Fld Z h241 o_ cn1 "rSums" "[D" (.ref aR) := f359.other W241 (Or.inl P65)
  have f361 : Fld Z h257 o_ cn1 "rSums" "[D" (.ref aR) := f360.other W257 (Or.inl P71)
  have f362 : Fld Z h273 o_ cn1 "rSums" "[D" (.ref aR) := f361.other W273 (Or.inl P78)
  have f363 : Fld Z h312 o_ cn1 "rSums" "[D" (.ref aR) := f362.other W312 (Or.inr (slot_ne (Or.inr (own_w hw 15 rfl)) (Or.inl (own_w hw 59 rfl)) (by decide) (t := (.array .double)) (t' := .int) (by decide) (by decide)))
  have f364 : Fld Z h332 o_ cn1 "rSums" "[D" (.ref aR) := f363.other W332 (Or.inr (slot_ne (Or.inr (own_w hw 15 rfl)) (Or.inl (own_w hw 61 rfl)) (by decide) (t := (.array .double)) (t' := .long) (by decide) (by decide)))
  have f365 : Arv Z h205 aR kaR .double (2 : Int32) [(.double (FP.dadd rs0 qr0)), (.double (FP.dadd rs1 qr1))] (.double (0 : UInt64)) := f189.other W205 (Ne.symm P54)
  have f366 : Arv Z h223 aR kaR .double (2 : Int32) [(.double (FP.dadd rs0 qr0)), (.double (FP.dadd rs1 qr1))] (.double (0 : UInt64)) := f365.other W223 (Ne.symm P57)
  have f367 : Arv Z h241 aR kaR .double (2 : Int32) [(.double (FP.dadd rs0 qr0)), (.double (FP.dadd rs1 qr1))] (.double (0 : UInt64)) := f366.other W241 (Ne.symm P61)
  have f368 : Arv Z h257 aR kaR .double (2 : Int32) [(.double (FP.dadd rs0 qr0)), (.double (FP.dadd rs1 qr1))] (.double (0 : UInt64)) := f367.other W257 (Ne.symm P66)
  have f369 : Arv Z h273 aR kaR .double (2 : Int32) [(.double (FP.dadd rs0 qr0)), (.double (FP.dadd rs1 qr1))] (.double (0 : UInt64)) := f368.other W273 (Ne.symm P72)
  have f370 : Arv Z h312 aR kaR .double (2 : Int32) [(.double (FP.dadd rs0 qr0)), (.double (FP.dadd rs1 qr1))] (.double (0 : UInt64)) := f369.other W312 (Ne.symm P53)
  have f371 : Arv Z h332 aR kaR .double (2 : Int32) [(.double (FP.dadd rs0 qr0)), (.double (FP.dadd rs1 qr1))] (.double (0 : UInt64)) := f370.other W332 (Ne.symm P53)
  have f372 : Fld Z h205 o_ cn1 "rHatSums" "[D" (.ref aH) := f195.other W205 (Or.inl P56)
  have f373 : Fld Z h223 o_ cn1 "rHatSums" "[D" (.ref aH) := f372.other W223 (Or.inl P60)
  have f374 : Fld Z h241 o_ cn1 "rHatSums" "[D" (.ref aH) := f373.other W241 (Or.inl P65)
  have f375 : Fld Z h257 o_ cn1 "rHatSums" "[D" (.ref aH) := f374.other W257 (Or.inl P71)
  have f376 : Fld Z h273 o_ cn1 "rHatSums" "[D" (.ref aH) := f375.other W273 (Or.inl P78)
  have f377 : Fld Z h312 o_ cn1 "rHatSums" "[D" (.ref aH) := f376.other W312 (Or.inr (slot_ne (Or.inr (own_w hw 17 rfl)) (Or.inl (own_w hw 59 rfl)) (by decide) (t := (.array .double)) (t' := .int) (by decide) (by decide)))
  have f378 : Fld Z h332 o_ cn1 "rHatSums" "[D" (.ref aH) := f377.other W332 (Or.inr (slot_ne (Or.inr (own_w hw 17 rfl)) (Or.inl (own_w hw 61 rfl)) (by decide) (t := (.array .double)) (t' := .long) (by decide) (by decide)))
  have f379 : Arv Z h223 aH kaH .double (2 : Int32) [(.double (FP.dadd rh0 qh0)), (.double (FP.dadd rh1 qh1))] (.double (0 : UInt64)) := f207.other W223 (Ne.symm P58)
  have f380 : Arv Z h241 aH kaH .double (2 : Int32) [(.double (FP.dadd rh0 qh0)), (.double (FP.dadd rh1 qh1))] (.double (0 : UInt64)) := f379.other W241 (Ne.symm P62)
  have f381 : Arv Z h257 aH kaH .double (2 : Int32) [(.double (FP.dadd rh0 qh0)), (.double (FP.dadd rh1 qh1))] (.double (0 : UInt64)) := f380.other W257 (Ne.symm P67)
  have f382 : Arv Z h273 aH kaH .double (2 : Int32) [(.double (FP.dadd rh0 qh0)), (.double (FP.dadd rh1 qh1))] (.double (0 : UInt64)) := f381.other W273 (Ne.symm P73)
  have f383 : Arv Z h312 aH kaH .double (2 : Int32) [(.double (FP.dadd rh0 qh0)), (.double (FP.dadd rh1 qh1))] (.double (0 : UInt64)) := f382.other W312 (Ne.symm P56)
  have f384 : Arv Z h332 aH kaH .double (2 : Int32) [(.double (FP.dadd rh0 qh0)), (.double (FP.dadd rh1 qh1))] (.double (0 : UInt64)) := f383.other W332 (Ne.symm P56)
  have f385 : Fld Z h223 o_ cn1 "pSums" "[D" (.ref aP) := f213.other W223 (Or.inl P60)
  have f386 : Fld Z h241 o_ cn1 "pSums" "[D" (.ref aP) := f385.other W241 (Or.inl P65)
  have f387 : Fld Z h257 o_ cn1 "pSums" "[D" (.ref aP) := f386.other W257 (Or.inl P71)
  have f388 : Fld Z h273 o_ cn1 "pSums" "[D" (.ref aP) := f387.other W273 (Or.inl P78)
  have f389 : Fld Z h312 o_ cn1 "pSums" "[D" (.ref aP) := f388.other W312 (Or.inr (slot_ne (Or.inr (own_w hw 19 rfl)) (Or.inl (own_w hw 59 rfl)) (by decide) (t := (.array .double)) (t' := .int) (by decide) (by decide)))
  have f390 : Fld Z h332 o_ cn1 "pSums" "[D" (.ref aP) := f389.other W332 (Or.inr (slot_ne (Or.inr (own_w hw 19 rfl)) (Or.inl (own_w hw 61 rfl)) (by decide) (t := (.array .double)) (t' := .long) (by decide) (by decide)))
  have f391 : Arv Z h241 aP kaP .double (2 : Int32) [(.double (FP.dadd ps0 qp0)), (.double (FP.dadd ps1 qp1))] (.double (0 : UInt64)) := f225.other W241 (Ne.symm P63)
  have f392 : Arv Z h257 aP kaP .double (2 : Int32) [(.double (FP.dadd ps0 qp0)), (.double (FP.dadd ps1 qp1))] (.double (0 : UInt64)) := f391.other W257 (Ne.symm P68)
  have f393 : Arv Z h273 aP kaP .double (2 : Int32) [(.double (FP.dadd ps0 qp0)), (.double (FP.dadd ps1 qp1))] (.double (0 : UInt64)) := f392.other W273 (Ne.symm P74)
  have f394 : Arv Z h312 aP kaP .double (2 : Int32) [(.double (FP.dadd ps0 qp0)), (.double (FP.dadd ps1 qp1))] (.double (0 : UInt64)) := f393.other W312 (Ne.symm P60)
  have f395 : Arv Z h332 aP kaP .double (2 : Int32) [(.double (FP.dadd ps0 qp0)), (.double (FP.dadd ps1 qp1))] (.double (0 : UInt64)) := f394.other W332 (Ne.symm P60)
  have f396 : Fld Z h241 o_ cn1 "cpSums" "[D" (.ref aC) := f231.other W241 (Or.inl P65)
  have f397 : Fld Z h257 o_ cn1 "cpSums" "[D" (.ref aC) := f396.other W257 (Or.inl P71)
  have f398 : Fld Z h273 o_ cn1 "cpSums" "[D" (.ref aC) := f397.other W273 (Or.inl P78)
  have f399 : Fld Z h312 o_ cn1 "cpSums" "[D" (.ref aC) := f398.other W312 (Or.inr (slot_ne (Or.inr (own_w hw 21 rfl)) (Or.inl (own_w hw 59 rfl)) (by decide) (t := (.array .double)) (t' := .int) (by decide) (by decide)))
  have f400 : Fld Z h332 o_ cn1 "cpSums" "[D" (.ref aC) := f399.other W332 (Or.inr (slot_ne (Or.inr (own_w hw 21 rfl)) (Or.inl (own_w hw 61 rfl)) (by decide) (t := (.array .double)) (t' := .long) (by decide) (by decide)))
  have f401 : Arv Z h257 aC kaC .double (2 : Int32) [(.double (FP.dadd cs0 qc0)), (.double (FP.dadd cs1 qc1))] (.double (0 : UInt64)) := f243.other W257 (Ne.symm P69)
  have f402 : Arv Z h273 aC kaC .double (2 : Int32) [(.double (FP.dadd cs0 qc0)), (.double (FP.dadd cs1 qc1))] (.double (0 : UInt64)) := f401.other W273 (Ne.symm P75)
  have f403 : Arv Z h312 aC kaC .double (2 : Int32) [(.double (FP.dadd cs0 qc0)), (.double (FP.dadd cs1 qc1))] (.double (0 : UInt64)) := f402.other W312 (Ne.symm P65)
  have f404 : Arv Z h332 aC kaC .double (2 : Int32) [(.double (FP.dadd cs0 qc0)), (.double (FP.dadd cs1 qc1))] (.double (0 : UInt64)) := f403.other W332 (Ne.symm P65)
  have f405 : Fld Z h257 o_ cn1 "found" "[J" (.ref aF) := f249.other W257 (Or.inl P71)
  have f406 : Fld Z h273 o_ cn1 "found" "[J" (.ref aF) := f405.other W273 (Or.inl P78)
  have f407 : Fld Z h312 o_ cn1 "found" "[J" (.ref aF) := f406.other W312 (Or.inr (slot_ne (Or.inr (own_w hw 24 rfl)) (Or.inl (own_w hw 59 rfl)) (by decide) (t := (.array .long)) (t' := .int) (by decide) (by decide)))
  have f408 : Fld Z h332 o_ cn1 "found" "[J" (.ref aF) := f407.other W332 (Or.inr (slot_ne (Or.inr (own_w hw 24 rfl)) (Or.inl (own_w hw 61 rfl)) (by decide) (t := (.array .long)) (t' := .long) (by decide) (by decide)))
  have f409 : Arv Z h273 aF kaF .long (2 : Int32) [(.long (fo0 + ((0 : Int64) + (x0_.toInt64)))), (.long (fo1 + (((0 : Int64) + (x0_.toInt64)) + (x1_.toInt64))))] (.long (0 : Int64)) := f259.other W273 (Ne.symm P76)
  have f410 : Arv Z h312 aF kaF .long (2 : Int32) [(.long (fo0 + ((0 : Int64) + (x0_.toInt64)))), (.long (fo1 + (((0 : Int64) + (x0_.toInt64)) + (x1_.toInt64))))] (.long (0 : Int64)) := f409.other W312 (Ne.symm P71)
  have f411 : Arv Z h332 aF kaF .long (2 : Int32) [(.long (fo0 + ((0 : Int64) + (x0_.toInt64)))), (.long (fo1 + (((0 : Int64) + (x0_.toInt64)) + (x1_.toInt64))))] (.long (0 : Int64)) := f410.other W332 (Ne.symm P71)
  have f412 : Fld Z h273 o_ cn1 "best" "[J" (.ref aB) := f265.other W273 (Or.inl P78)
  have f413 : Fld Z h312 o_ cn1 "best" "[J" (.ref aB) := f412.other W312 (Or.inr (slot_ne (Or.inr (own_w hw 26 rfl)) (Or.inl (own_w hw 59 rfl)) (by decide) (t := (.array .long)) (t' := .int) (by decide) (by decide)))
  have f414 : Fld Z h332 o_ cn1 "best" "[J" (.ref aB) := f413.other W332 (Or.inr (slot_ne (Or.inr (own_w hw 26 rfl)) (Or.inl (own_w hw 61 rfl)) (by decide) (t := (.array .long)) (t' := .long) (by decide) (by decide)))
  have f415 : Arv Z h312 aB kaB .long (2 : Int32) [(.long (be0 + ((0 : Int64) + (hi_.toInt64)))), (.long (be1 + (((0 : Int64) + (hi_.toInt64)) + (lo_.toInt64))))] (.long (0 : Int64)) := f275.other W312 (Ne.symm P78)
  have f416 : Arv Z h332 aB kaB .long (2 : Int32) [(.long (be0 + ((0 : Int64) + (hi_.toInt64)))), (.long (be1 + (((0 : Int64) + (hi_.toInt64)) + (lo_.toInt64))))] (.long (0 : Int64)) := f415.other W332 (Ne.symm P78)
  obtain ⟨fs, hr, hrun, hended, hW, hsame⟩ := X332.leave (v := none) (fun _ => rfl)
  refine ⟨_, _, hG _ (pre335 _ (X332.returnOut hx Bd.returns (hb hby d7_285) hr)), hrun, hended, _, _, rfl, ?_, ⟨_, rfl⟩, hW, hsame.mono (by decide) (by decide)⟩
  show QAdd Z o_ qu rel aR kaR rs0 rs1 aH kaH rh0 rh1 aP kaP ps0 ps1 aC kaC cs0 cs1 aF kaF fo0 fo1 aB kaB be0 be1 am kam ad kad x0_ x1_ y0_ y1_ lo_ hi_ c0_ c1_ qr0 qr1 qh0 qh1 qp0 qp1 qc0 qc1 h0 n0 _ T332.heap _
  rw [e332]
  exact ⟨rfl, N333, f352, f353, f355, f356, f334, f364, f371, f378, f384, f390, f395, f400, f404, f408, f411, f414, f416⟩
theorem d8_0 : decode prog_41_method_5_code 0 = .ok (.aload_n 0, 1) := by decide +kernel
theorem d8_1 : decode prog_41_method_5_code 1 = .ok (.getfield 60, 3) := by decide +kernel
theorem d8_4 : decode prog_41_method_5_code 4 = .ok (.ifCond .ne 13, 3) := by decide +kernel
theorem d8_17 : decode prog_41_method_5_code 17 = .ok (.new 72, 3) := by decide +kernel
theorem d8_20 : decode prog_41_method_5_code 20 = .ok (.dup, 1) := by decide +kernel
theorem d8_21 : decode prog_41_method_5_code 21 = .ok (.invokespecial 74, 3) := by decide +kernel
theorem d9_0 : decode jdk_38_method_2_code 0 = .ok (.aload_n 0, 1) := by decide +kernel
theorem d9_1 : decode jdk_38_method_2_code 1 = .ok (.invokespecial 1, 3) := by decide +kernel
theorem d10_0 : decode jdk_39_method_1_code 0 = .ok (.aload_n 0, 1) := by decide +kernel
theorem d10_1 : decode jdk_39_method_1_code 1 = .ok (.invokespecial 1, 3) := by decide +kernel
theorem d11_0 : decode jdk_22_method_1_code 0 = .ok (.aload_n 0, 1) := by decide +kernel
theorem d11_1 : decode jdk_22_method_1_code 1 = .ok (.invokespecial 1, 3) := by decide +kernel
theorem d11_4 : decode jdk_22_method_1_code 4 = .ok (.return_, 1) := by decide +kernel
theorem pn_3 : plainName "java/util/AbstractCollection" = true := by first | (simp [plainName, overriddenIn]; done) | decide +kernel
theorem efinit3 (m : MethodId) (o0_ : Addr) : entryFrame m #[(.ref o0_)] 1 = mkF m 0 #[lvR o0_] [] := by first | (simp [entryFrame, mkF, argsToLocals, Value.category]; done) | rfl
def Qinit3 (Z : State) (o0_ : Addr) (h0 : Heap) (n0 : Nat) (v : Option Value) (h : Heap) (L : List Loc) : Prop := v = none ∧ Fr n0 L ∧ h = h0
set_option maxRecDepth 65536 in
set_option maxHeartbeats 40000000 in
theorem rminit3 (l : Launch) (Z : State) (a0 : Array Value) (hw : ∀ d ∈ tables_1, d.before a0 Z = true) (ws : List Jvm.Cond) (o0_ : Addr) (h0 : Heap) (n0 : Nat) (O0 : Old Z n0 h0) (P0 : Exa Z h0 o0_ "java/util/ArrayList") (P1 : Fld Z h0 o0_ "java/util/AbstractList" "modCount" "I" (.int (0 : Int32))) (P2 : Fld Z h0 o0_ "java/util/ArrayList" "elementData" "[Ljava/lang/Object;" .null) (P3 : Fld Z h0 o0_ "java/util/ArrayList" "size" "I" (.int (0 : Int32))) :
    MetFree l (⟨"java/util/AbstractCollection", "<init>", "()V"⟩ : MethodName) (head1 (Jvm.Cond.code (⟨"java/util/AbstractCollection", "<init>", "()V"⟩ : MethodName) jdk_22_method_1_code 1 none :: ws) ({ frames := 1, cells := 0, slots := 0, locals := 12 } : Room)) (fun a U => a = #[(.ref o0_)] ∧ Z.Warmed39 U.vm ∧ U.heap = h0) (fun _ _ _ _ _ => True) (fun _ U o U' => ∃ v L, o = .returned v ∧ Qinit3 Z o0_ h0 n0 v U'.heap L ∧ FrameEnd U o U' L ({ frames := 1, cells := 0, slots := 0, locals := 12 } : Room).cells ({ frames := 1, cells := 0, slots := 0, locals := 12 } : Room).slots) := by
  refine MetFree.of_bodySF (plainFor_of_name pn_3) hisR ?_
  intro p e s m args below meth c s₁ Bd hml0 hP hK
  obtain ⟨rfl, hZ, hh⟩ := hP
  have hx := Bd.exec
  have hby := Bd.bytes
  have hml : c.maxLocals = 1 := hml0
  have hown : s.vm.findClass "java/util/AbstractCollection" = some m.cls := findClass_of_methodNamed Bd.named
  have hnm := (name_of_methodNamed Bd.named Bd.method).1
  have X0 : Stand p l e ({ frames := 1, cells := 0, slots := 0, locals := 12 } : Room) s m #[(.ref o0_)] below meth c s₁ [] 0 0 := Stand.of_body Bd
  have e0 : s₁.heap = h0 := by rw [← hh, Bd.state]; rfl
  have N0 := Fr.nil n0
  obtain ⟨G, pre0, hG⟩ : ∃ G : State → Prop, (∀ t, own_S p e below m s₁ 0 #[lvR o0_] [] t → G t) ∧ (∀ t, G t → Steps p.tables e below (s₁.setTop (entryFrame m #[(.ref o0_)] 1)) t) := ⟨fun t => Steps p.tables e below (s₁.setTop (entryFrame m #[(.ref o0_)] 1)) t, fun t k => castTop (efinit3 m o0_) k, fun _ k => k⟩
  have K0 : Keep h0 h0 [] := Keep.refl _ _
  obtain ⟨T1, X1, e1, st1⟩ := initO X0 hx hZ hown (own_w hw 85 rfl) (own_w hw 9 rfl) (own_w hw 10 rfl) e0 (g := (mkF m 1 #[lvR o0_] [(.ref o0_)])) rfl (by rw [hml]; rfl) rfl (hb hby d11_1) (by decide) (W := 0) (by show 2 * 0 + _ ≤ _; exact Nat.le_of_eq rfl) (by decide)
  have pre2 : ∀ t, own_S p e below m T1 4 #[lvR o0_] [] t → G t := by
    intro t kt
    refine pre0 t ?_
    show own_S p e below m s₁ 0 #[lvR o0_] [] _
    refine XS.aloadN X0.here hx rfl (hb hby d11_0) rfl rfl ?_
    show own_S p e below m s₁ 1 #[lvR o0_] [(.ref o0_)] _
    refine st1 _ ?_
    exact kt
  obtain ⟨fs, hr, hrun, hended, hW, hsame⟩ := X1.leave (v := none) (fun _ => rfl)
  refine ⟨_, _, hG _ (pre2 _ (X1.returnOut hx Bd.returns (hb hby d11_4) hr)), hrun, hended, _, _, rfl, ?_, ⟨_, rfl⟩, hW, hsame.mono (by decide) (by decide)⟩
  show Qinit3 Z o0_ h0 n0 _ T1.heap _
  rw [e1]
  exact ⟨rfl, N0, rfl⟩
theorem pd_5 : parseMethodDescriptor "()V" = some ⟨[], none⟩ := by decide +kernel
theorem d10_4 : decode jdk_39_method_1_code 4 = .ok (.aload_n 0, 1) := by decide +kernel
theorem d10_5 : decode jdk_39_method_1_code 5 = .ok (.iconst 0, 1) := by decide +kernel
theorem d10_6 : decode jdk_39_method_1_code 6 = .ok (.putfield 7, 3) := by decide +kernel
theorem d10_9 : decode jdk_39_method_1_code 9 = .ok (.return_, 1) := by decide +kernel
theorem pn_4 : plainName "java/util/AbstractList" = true := by first | (simp [plainName, overriddenIn]; done) | decide +kernel
theorem efinit2 (m : MethodId) (o0_ : Addr) : entryFrame m #[(.ref o0_)] 1 = mkF m 0 #[lvR o0_] [] := by first | (simp [entryFrame, mkF, argsToLocals, Value.category]; done) | rfl
def Qinit2 (Z : State) (o0_ : Addr) (h0 : Heap) (n0 : Nat) (v : Option Value) (h : Heap) (L : List Loc) : Prop := v = none ∧ Fr n0 L ∧ Keep h0 h [o0_] ∧ Exa Z h o0_ "java/util/ArrayList" ∧ Fld Z h o0_ "java/util/AbstractList" "modCount" "I" (.int (0 : Int32)) ∧ Fld Z h o0_ "java/util/ArrayList" "elementData" "[Ljava/lang/Object;" .null ∧ Fld Z h o0_ "java/util/ArrayList" "size" "I" (.int (0 : Int32))
set_option maxRecDepth 65536 in
set_option maxHeartbeats 40000000 in
theorem rminit2 (l : Launch) (Z : State) (a0 : Array Value) (hw : ∀ d ∈ tables_1, d.before a0 Z = true) (ws : List Jvm.Cond) (o0_ : Addr) (h0 : Heap) (n0 : Nat) (O0 : Old Z n0 h0) (P0 : Exa Z h0 o0_ "java/util/ArrayList") (P1 : Fld Z h0 o0_ "java/util/AbstractList" "modCount" "I" (.int (0 : Int32))) (P2 : Fld Z h0 o0_ "java/util/ArrayList" "elementData" "[Ljava/lang/Object;" .null) (P3 : Fld Z h0 o0_ "java/util/ArrayList" "size" "I" (.int (0 : Int32))) (P4 : n0 ≤ o0_) :
    MetFree l (⟨"java/util/AbstractList", "<init>", "()V"⟩ : MethodName) (head1 (Jvm.Cond.code (⟨"java/util/AbstractList", "<init>", "()V"⟩ : MethodName) jdk_39_method_1_code 1 none :: ws) ({ frames := 2, cells := 0, slots := 0, locals := 24 } : Room)) (fun a U => a = #[(.ref o0_)] ∧ Z.Warmed39 U.vm ∧ U.heap = h0) (fun _ _ _ _ _ => True) (fun _ U o U' => ∃ v L, o = .returned v ∧ Qinit2 Z o0_ h0 n0 v U'.heap L ∧ FrameEnd U o U' L ({ frames := 2, cells := 0, slots := 0, locals := 24 } : Room).cells ({ frames := 2, cells := 0, slots := 0, locals := 24 } : Room).slots) := by
  refine MetFree.of_bodySF (plainFor_of_name pn_4) hisR ?_
  intro p e s m args below meth c s₁ Bd hml0 hP hK
  obtain ⟨rfl, hZ, hh⟩ := hP
  have hx := Bd.exec
  have hby := Bd.bytes
  have hml : c.maxLocals = 1 := hml0
  have hown : s.vm.findClass "java/util/AbstractList" = some m.cls := findClass_of_methodNamed Bd.named
  have hnm := (name_of_methodNamed Bd.named Bd.method).1
  have X0 : Stand p l e ({ frames := 2, cells := 0, slots := 0, locals := 24 } : Room) s m #[(.ref o0_)] below meth c s₁ [] 0 0 := Stand.of_body Bd
  have e0 : s₁.heap = h0 := by rw [← hh, Bd.state]; rfl
  have N0 := Fr.nil n0
  obtain ⟨G, pre0, hG⟩ : ∃ G : State → Prop, (∀ t, own_S p e below m s₁ 0 #[lvR o0_] [] t → G t) ∧ (∀ t, G t → Steps p.tables e below (s₁.setTop (entryFrame m #[(.ref o0_)] 1)) t) := ⟨fun t => Steps p.tables e below (s₁.setTop (entryFrame m #[(.ref o0_)] 1)) t, fun t k => castTop (efinit2 m o0_) k, fun _ k => k⟩
  have K0 : Keep h0 h0 [o0_] := Keep.refl _ _
  obtain ⟨_, _, ⟨T1, L1, k1, n1⟩, -, X1, ⟨Lc1, hQ1, l1, y1, z1⟩, st1⟩ := X0.specialBack hx (y := (⟨"java/util/AbstractCollection", "<init>", "()V"⟩ : MethodName)) rfl hown (mvT hZ (own_w hw 79 rfl)) (mvT hZ (own_w hw 80 rfl)) (mvT hZ (own_w hw 84 rfl)) (by decide) (backOf (W := 0) (rminit3 l Z a0 hw [] o0_ h0 n0 O0 P0 P1 P2 P3) hZ (own_w hw 84 rfl) (own_w hw 83 rfl) (by decide) (by decide)) (g := (mkF m 1 #[lvR o0_] [(.ref o0_)])) rfl (by rw [hml]; rfl) (Steps.refl _) (a := o0_) (argsL := []) (rest := []) (lenOf pd_5 rfl) rfl (by show 2 * 0 + _ ≤ _; exact Nat.le_of_eq rfl) (hb hby d10_1) (fun _ _ => ⟨rfl, e0, (by decide : 0 + 0 ≤ _), (by decide : 0 + 0 ≤ _)⟩)
  dsimp only [Pt.U, Pt.locs, Pt.cells, Pt.slots] at X1 l1 y1 z1 st1 hQ1
  subst l1 y1 z1
  obtain ⟨h1, e1⟩ : ∃ z, T1.heap = z := ⟨_, rfl⟩
  rw [e1] at hQ1
  obtain ⟨rfl, N1q, hh1⟩ := hQ1
  have N2 := Fr.app N0 N1q
  have e1' : T1.heap = h0 := e1.trans hh1
  obtain ⟨T3, h3, X3, e3, W3, st3⟩ := putF X1 hx hZ hown (host := "") (Or.inl (own_w hw 86 rfl)) Via.refl e1' P1 P0 (Or.inl (own_w hw 87 rfl)) (own_w hw 68 rfl) (ty := .int) (by decide) rfl rfl (g := (mkF m 6 #[lvR o0_] [(.int (0 : Int32)), (.ref o0_)])) rfl rfl (hb hby d10_6)
  have N4 := Fr.snoc X3 N2 P4
  have f5 : Fld Z h3 o0_ "java/util/AbstractList" "modCount" "I" (.int (0 : Int32)) := P1.same W3
  have pre6 : ∀ t, own_S p e below m T3 9 #[lvR o0_] [] t → G t := by
    intro t kt
    refine pre0 t ?_
    show own_S p e below m s₁ 0 #[lvR o0_] [] _
    refine XS.aloadN X0.here hx rfl (hb hby d10_0) rfl rfl ?_
    show own_S p e below m s₁ 1 #[lvR o0_] [(.ref o0_)] _
    refine st1.trans ?_
    refine XS.aloadN X1.here hx rfl (hb hby d10_4) rfl rfl ?_
    refine XS.iconst X1.here hx rfl (hb hby d10_5) ?_
    show own_S p e below m T1 6 #[lvR o0_] [(.int (0 : Int32)), (.ref o0_)] _
    refine st3 _ ?_
    exact kt
  have f8 : Keep h0 h3 [o0_] := K0.wr W3 (Or.inl (List.mem_of_getElem? (i := 0) rfl))
  have f9 : Exa Z h3 o0_ "java/util/ArrayList" := P0.wr W3
  have f10 : Fld Z h3 o0_ "java/util/ArrayList" "elementData" "[Ljava/lang/Object;" .null := P2.other W3 (Or.inr (slot_ne (Or.inl (own_w hw 90 rfl)) (Or.inl (own_w hw 87 rfl)) (by decide) (t := (.array (.object "java/lang/Object"))) (t' := .int) (by decide) (by decide)))
  have f11 : Fld Z h3 o0_ "java/util/ArrayList" "size" "I" (.int (0 : Int32)) := P3.other W3 (Or.inr (slot_ne (Or.inl (own_w hw 129 rfl)) (Or.inl (own_w hw 87 rfl)) (by decide) (t := .int) (t' := .int) (by decide) (by decide)))
  obtain ⟨fs, hr, hrun, hended, hW, hsame⟩ := X3.leave (v := none) (fun _ => rfl)
  refine ⟨_, _, hG _ (pre6 _ (X3.returnOut hx Bd.returns (hb hby d10_9) hr)), hrun, hended, _, _, rfl, ?_, ⟨_, rfl⟩, hW, hsame.mono (by decide) (by decide)⟩
  show Qinit2 Z o0_ h0 n0 _ T3.heap _
  rw [e3]
  exact ⟨rfl, N4, f8, f9, f5, f10, f11⟩
theorem d9_4 : decode jdk_38_method_2_code 4 = .ok (.aload_n 0, 1) := by decide +kernel
theorem d9_5 : decode jdk_38_method_2_code 5 = .ok (.getstatic 39, 3) := by decide +kernel
theorem d9_8 : decode jdk_38_method_2_code 8 = .ok (.putfield 9, 3) := by decide +kernel
theorem d9_11 : decode jdk_38_method_2_code 11 = .ok (.return_, 1) := by decide +kernel
theorem pn_5 : plainName "java/util/ArrayList" = true := by first | (simp [plainName, overriddenIn]; done) | decide +kernel
theorem efinit1 (m : MethodId) (o0_ : Addr) : entryFrame m #[(.ref o0_)] 1 = mkF m 0 #[lvR o0_] [] := by first | (simp [entryFrame, mkF, argsToLocals, Value.category]; done) | rfl
def Qinit1 (Z : State) (o0_ : Addr) (o1_ : Addr) (ko1_ : ClassId) (h0 : Heap) (n0 : Nat) (v : Option Value) (h : Heap) (L : List Loc) : Prop := v = none ∧ Fr n0 L ∧ Keep h0 h [o0_] ∧ Exa Z h o0_ "java/util/ArrayList" ∧ Fld Z h o0_ "java/util/AbstractList" "modCount" "I" (.int (0 : Int32)) ∧ Fld Z h o0_ "java/util/ArrayList" "elementData" "[Ljava/lang/Object;" (.ref o1_) ∧ Fld Z h o0_ "java/util/ArrayList" "size" "I" (.int (0 : Int32))
set_option maxRecDepth 65536 in
set_option maxHeartbeats 40000000 in
theorem rminit1 (l : Launch) (Z : State) (a0 : Array Value) (hw : ∀ d ∈ tables_1, d.before a0 Z = true) (ws : List Jvm.Cond) (o0_ : Addr) (o1_ : Addr) (ko1_ : ClassId) (h0 : Heap) (n0 : Nat) (O0 : Old Z n0 h0) (P0 : Exa Z h0 o0_ "java/util/ArrayList") (P1 : Fld Z h0 o0_ "java/util/AbstractList" "modCount" "I" (.int (0 : Int32))) (P2 : Fld Z h0 o0_ "java/util/ArrayList" "elementData" "[Ljava/lang/Object;" .null) (P3 : Fld Z h0 o0_ "java/util/ArrayList" "size" "I" (.int (0 : Int32))) (P4 : n0 ≤ o0_) (P5 : Exa Z Z.heap o1_ "[Ljava/lang/Object;") (P6 : Arv Z Z.heap o1_ ko1_ (.object "java/lang/Object") (0 : Int32) [] .null) (P7 : Sta Z Z.heap "java/util/ArrayList" "DEFAULTCAPACITY_EMPTY_ELEMENTDATA" "[Ljava/lang/Object;" (.ref o1_)) :
    MetFree l (⟨"java/util/ArrayList", "<init>", "()V"⟩ : MethodName) (head1 (Jvm.Cond.code (⟨"java/util/ArrayList", "<init>", "()V"⟩ : MethodName) jdk_38_method_2_code 1 none :: ws) ({ frames := 3, cells := 0, slots := 0, locals := 36 } : Room)) (fun a U => a = #[(.ref o0_)] ∧ Z.Warmed39 U.vm ∧ U.heap = h0) (fun _ _ _ _ _ => True) (fun _ U o U' => ∃ v L, o = .returned v ∧ Qinit1 Z o0_ o1_ ko1_ h0 n0 v U'.heap L ∧ FrameEnd U o U' L ({ frames := 3, cells := 0, slots := 0, locals := 36 } : Room).cells ({ frames := 3, cells := 0, slots := 0, locals := 36 } : Room).slots) := by
  refine MetFree.of_bodySF (plainFor_of_name pn_5) hisR ?_
  intro p e s m args below meth c s₁ Bd hml0 hP hK
  obtain ⟨rfl, hZ, hh⟩ := hP
  have hx := Bd.exec
  have hby := Bd.bytes
  have hml : c.maxLocals = 1 := hml0
  have hown : s.vm.findClass "java/util/ArrayList" = some m.cls := findClass_of_methodNamed Bd.named
  have hnm := (name_of_methodNamed Bd.named Bd.method).1
  have X0 : Stand p l e ({ frames := 3, cells := 0, slots := 0, locals := 36 } : Room) s m #[(.ref o0_)] below meth c s₁ [] 0 0 := Stand.of_body Bd
  have e0 : s₁.heap = h0 := by rw [← hh, Bd.state]; rfl
  have N0 := Fr.nil n0
  obtain ⟨G, pre0, hG⟩ : ∃ G : State → Prop, (∀ t, own_S p e below m s₁ 0 #[lvR o0_] [] t → G t) ∧ (∀ t, G t → Steps p.tables e below (s₁.setTop (entryFrame m #[(.ref o0_)] 1)) t) := ⟨fun t => Steps p.tables e below (s₁.setTop (entryFrame m #[(.ref o0_)] 1)) t, fun t k => castTop (efinit1 m o0_) k, fun _ k => k⟩
  have K0 : Keep h0 h0 [o0_] := Keep.refl _ _
  obtain ⟨_, _, ⟨T1, L1, k1, n1⟩, -, X1, ⟨Lc1, hQ1, l1, y1, z1⟩, st1⟩ := X0.specialBack hx (y := (⟨"java/util/AbstractList", "<init>", "()V"⟩ : MethodName)) rfl hown (mvT hZ (own_w hw 73 rfl)) (mvT hZ (own_w hw 74 rfl)) (mvT hZ (own_w hw 78 rfl)) (by decide) (backOf (W := 0) (rminit2 l Z a0 hw [] o0_ h0 n0 O0 P0 P1 P2 P3 P4) hZ (own_w hw 78 rfl) (own_w hw 77 rfl) (by decide) (by decide)) (g := (mkF m 1 #[lvR o0_] [(.ref o0_)])) rfl (by rw [hml]; rfl) (Steps.refl _) (a := o0_) (argsL := []) (rest := []) (lenOf pd_5 rfl) rfl (by show 2 * 0 + _ ≤ _; exact Nat.le_of_eq rfl) (hb hby d9_1) (fun _ _ => ⟨rfl, e0, (by decide : 0 + 0 ≤ _), (by decide : 0 + 0 ≤ _)⟩)
  dsimp only [Pt.U, Pt.locs, Pt.cells, Pt.slots] at X1 l1 y1 z1 st1 hQ1
  subst l1 y1 z1
  obtain ⟨h1, e1⟩ : ∃ z, T1.heap = z := ⟨_, rfl⟩
  rw [e1] at hQ1
  obtain ⟨rfl, N1q, K1, g1_0, g1_1, g1_2, g1_3⟩ := hQ1
  have N2 := Fr.app N0 N1q
  have f3 : Old Z n0 h1 := O0.keep K1 (allS (P4) all0)
  obtain ⟨T4, X4, e4, st4⟩ := getS2 X1 hx hZ hown (host := "") (Or.inl (own_w hw 88 rfl)) Via.refl e1 (P7.ext f3.2) (g := (mkF m 5 #[lvR o0_] [(.ref o0_)])) rfl (hb hby d9_5)
  obtain ⟨T5, h5, X5, e5, W5, st5⟩ := putF X4 hx hZ hown (host := "") (Or.inl (own_w hw 89 rfl)) Via.refl e4 g1_2 g1_0 (Or.inl (own_w hw 90 rfl)) (own_w hw 68 rfl) (ty := (.array (.object "java/lang/Object"))) (by decide) rfl rfl (g := (mkF m 8 #[lvR o0_] [(.ref o1_), (.ref o0_)])) rfl rfl (hb hby d9_8)
  have N6 := Fr.snoc X5 N2 P4
  have f7 : Fld Z h5 o0_ "java/util/ArrayList" "elementData" "[Ljava/lang/Object;" (.ref o1_) := g1_2.same W5
  have pre8 : ∀ t, own_S p e below m T5 11 #[lvR o0_] [] t → G t := by
    intro t kt
    refine pre0 t ?_
    show own_S p e below m s₁ 0 #[lvR o0_] [] _
    refine XS.aloadN X0.here hx rfl (hb hby d9_0) rfl rfl ?_
    show own_S p e below m s₁ 1 #[lvR o0_] [(.ref o0_)] _
    refine st1.trans ?_
    refine XS.aloadN X1.here hx rfl (hb hby d9_4) rfl rfl ?_
    show own_S p e below m T1 5 #[lvR o0_] [(.ref o0_)] _
    refine st4 _ ?_
    show own_S p e below m T4 8 #[lvR o0_] [(.ref o1_), (.ref o0_)] _
    refine st5 _ ?_
    exact kt
  have f10 : Keep h0 h1 [o0_] := K0.trans K1 (allS (Or.inl (List.mem_of_getElem? (i := 0) rfl)) all0)
  have f11 : Keep h0 h5 [o0_] := f10.wr W5 (Or.inl (List.mem_of_getElem? (i := 0) rfl))
  have f12 : Exa Z h5 o0_ "java/util/ArrayList" := g1_0.wr W5
  have f13 : Fld Z h5 o0_ "java/util/AbstractList" "modCount" "I" (.int (0 : Int32)) := g1_1.other W5 (Or.inr (slot_ne (Or.inl (own_w hw 87 rfl)) (Or.inl (own_w hw 90 rfl)) (by decide) (t := .int) (t' := (.array (.object "java/lang/Object"))) (by decide) (by decide)))
  have f14 : Fld Z h5 o0_ "java/util/ArrayList" "size" "I" (.int (0 : Int32)) := g1_3.other W5 (Or.inr (slot_ne (Or.inl (own_w hw 129 rfl)) (Or.inl (own_w hw 90 rfl)) (by decide) (t := .int) (t' := (.array (.object "java/lang/Object"))) (by decide) (by decide)))
  obtain ⟨fs, hr, hrun, hended, hW, hsame⟩ := X5.leave (v := none) (fun _ => rfl)
  refine ⟨_, _, hG _ (pre8 _ (X5.returnOut hx Bd.returns (hb hby d9_11) hr)), hrun, hended, _, _, rfl, ?_, ⟨_, rfl⟩, hW, hsame.mono (by decide) (by decide)⟩
  show Qinit1 Z o0_ o1_ ko1_ h0 n0 _ T5.heap _
  rw [e5]
  exact ⟨rfl, N6, f11, f12, f13, f7, f14⟩
theorem d8_24 : decode prog_41_method_5_code 24 = .ok (.astore_n 1, 1) := by decide +kernel
theorem d8_25 : decode prog_41_method_5_code 25 = .ok (.iconst 0, 1) := by decide +kernel
theorem d8_26 : decode prog_41_method_5_code 26 = .ok (.istore_n 2, 1) := by decide +kernel
theorem d8_27 : decode prog_41_method_5_code 27 = .ok (.iload_n 2, 1) := by decide +kernel
theorem d8_28 : decode prog_41_method_5_code 28 = .ok (.aload_n 0, 1) := by decide +kernel
theorem d8_29 : decode prog_41_method_5_code 29 = .ok (.getfield 7, 3) := by decide +kernel
theorem d8_32 : decode prog_41_method_5_code 32 = .ok (.if_icmp .ge 102, 3) := by decide +kernel
theorem d8_35 : decode prog_41_method_5_code 35 = .ok (.aload_n 1, 1) := by decide +kernel
theorem d8_36 : decode prog_41_method_5_code 36 = .ok (.new 75, 3) := by decide +kernel
abbrev cn2 : String := "com/example/shortlist/shortlist/SelectionMeasures$Row"
theorem d8_39 : decode prog_41_method_5_code 39 = .ok (.dup, 1) := by decide +kernel
theorem d8_40 : decode prog_41_method_5_code 40 = .ok (.iload_n 2, 1) := by decide +kernel
theorem d8_41 : decode prog_41_method_5_code 41 = .ok (.iconst 1, 1) := by decide +kernel
theorem d8_42 : decode prog_41_method_5_code 42 = .ok (.iadd, 1) := by decide +kernel
theorem d8_43 : decode prog_41_method_5_code 43 = .ok (.aload_n 0, 1) := by decide +kernel
theorem d8_44 : decode prog_41_method_5_code 44 = .ok (.getfield 13, 3) := by decide +kernel
theorem d8_47 : decode prog_41_method_5_code 47 = .ok (.iload_n 2, 1) := by decide +kernel
theorem d8_48 : decode prog_41_method_5_code 48 = .ok (.daload, 1) := by decide +kernel
theorem d8_49 : decode prog_41_method_5_code 49 = .ok (.aload_n 0, 1) := by decide +kernel
theorem d8_50 : decode prog_41_method_5_code 50 = .ok (.getfield 60, 3) := by decide +kernel
theorem d8_53 : decode prog_41_method_5_code 53 = .ok (.i2d, 1) := by decide +kernel
theorem d8_54 : decode prog_41_method_5_code 54 = .ok (.ddiv, 1) := by decide +kernel
theorem d8_55 : decode prog_41_method_5_code 55 = .ok (.aload_n 0, 1) := by decide +kernel
theorem d8_56 : decode prog_41_method_5_code 56 = .ok (.getfield 17, 3) := by decide +kernel
theorem d8_59 : decode prog_41_method_5_code 59 = .ok (.iload_n 2, 1) := by decide +kernel
theorem d8_60 : decode prog_41_method_5_code 60 = .ok (.daload, 1) := by decide +kernel
theorem d8_61 : decode prog_41_method_5_code 61 = .ok (.aload_n 0, 1) := by decide +kernel
theorem d8_62 : decode prog_41_method_5_code 62 = .ok (.getfield 60, 3) := by decide +kernel
theorem d8_65 : decode prog_41_method_5_code 65 = .ok (.i2d, 1) := by decide +kernel
theorem d8_66 : decode prog_41_method_5_code 66 = .ok (.ddiv, 1) := by decide +kernel
theorem d8_67 : decode prog_41_method_5_code 67 = .ok (.aload_n 0, 1) := by decide +kernel
theorem d8_68 : decode prog_41_method_5_code 68 = .ok (.getfield 20, 3) := by decide +kernel
theorem d8_71 : decode prog_41_method_5_code 71 = .ok (.iload_n 2, 1) := by decide +kernel
theorem d8_72 : decode prog_41_method_5_code 72 = .ok (.daload, 1) := by decide +kernel
theorem d8_73 : decode prog_41_method_5_code 73 = .ok (.aload_n 0, 1) := by decide +kernel
theorem d8_74 : decode prog_41_method_5_code 74 = .ok (.getfield 60, 3) := by decide +kernel
theorem d8_77 : decode prog_41_method_5_code 77 = .ok (.i2d, 1) := by decide +kernel
theorem d8_78 : decode prog_41_method_5_code 78 = .ok (.ddiv, 1) := by decide +kernel
theorem d8_79 : decode prog_41_method_5_code 79 = .ok (.aload_n 0, 1) := by decide +kernel
theorem d8_80 : decode prog_41_method_5_code 80 = .ok (.getfield 26, 3) := by decide +kernel
theorem d8_83 : decode prog_41_method_5_code 83 = .ok (.iload_n 2, 1) := by decide +kernel
theorem d8_84 : decode prog_41_method_5_code 84 = .ok (.laload, 1) := by decide +kernel
theorem d8_85 : decode prog_41_method_5_code 85 = .ok (.l2d, 1) := by decide +kernel
theorem d8_86 : decode prog_41_method_5_code 86 = .ok (.aload_n 0, 1) := by decide +kernel
theorem d8_87 : decode prog_41_method_5_code 87 = .ok (.getfield 30, 3) := by decide +kernel
theorem d8_90 : decode prog_41_method_5_code 90 = .ok (.iload_n 2, 1) := by decide +kernel
theorem d8_91 : decode prog_41_method_5_code 91 = .ok (.laload, 1) := by decide +kernel
theorem d8_92 : decode prog_41_method_5_code 92 = .ok (.l2d, 1) := by decide +kernel
theorem d8_93 : decode prog_41_method_5_code 93 = .ok (.ddiv, 1) := by decide +kernel
theorem d8_94 : decode prog_41_method_5_code 94 = .ok (.aload_n 0, 1) := by decide +kernel
theorem d8_95 : decode prog_41_method_5_code 95 = .ok (.getfield 26, 3) := by decide +kernel
theorem d8_98 : decode prog_41_method_5_code 98 = .ok (.iload_n 2, 1) := by decide +kernel
theorem d8_99 : decode prog_41_method_5_code 99 = .ok (.laload, 1) := by decide +kernel
theorem d8_100 : decode prog_41_method_5_code 100 = .ok (.l2d, 1) := by decide +kernel
theorem d8_101 : decode prog_41_method_5_code 101 = .ok (.aload_n 0, 1) := by decide +kernel
theorem d8_102 : decode prog_41_method_5_code 102 = .ok (.getfield 63, 3) := by decide +kernel
theorem d8_105 : decode prog_41_method_5_code 105 = .ok (.l2d, 1) := by decide +kernel
theorem d8_106 : decode prog_41_method_5_code 106 = .ok (.ddiv, 1) := by decide +kernel
theorem d8_107 : decode prog_41_method_5_code 107 = .ok (.aload_n 0, 1) := by decide +kernel
theorem d8_108 : decode prog_41_method_5_code 108 = .ok (.getfield 23, 3) := by decide +kernel
theorem d8_111 : decode prog_41_method_5_code 111 = .ok (.iload_n 2, 1) := by decide +kernel
theorem d8_112 : decode prog_41_method_5_code 112 = .ok (.daload, 1) := by decide +kernel
theorem d8_113 : decode prog_41_method_5_code 113 = .ok (.aload_n 0, 1) := by decide +kernel
theorem d8_114 : decode prog_41_method_5_code 114 = .ok (.getfield 60, 3) := by decide +kernel
theorem d8_117 : decode prog_41_method_5_code 117 = .ok (.i2d, 1) := by decide +kernel
theorem d8_118 : decode prog_41_method_5_code 118 = .ok (.ddiv, 1) := by decide +kernel
theorem d8_119 : decode prog_41_method_5_code 119 = .ok (.invokespecial 77, 3) := by decide +kernel
theorem d12_0 : decode prog_42_method_1_code 0 = .ok (.aload_n 0, 1) := by decide +kernel
theorem d12_1 : decode prog_42_method_1_code 1 = .ok (.invokespecial 1, 3) := by decide +kernel
theorem d13_0 : decode jdk_30_method_1_code 0 = .ok (.aload_n 0, 1) := by decide +kernel
theorem d13_1 : decode jdk_30_method_1_code 1 = .ok (.invokespecial 1, 3) := by decide +kernel
theorem d13_4 : decode jdk_30_method_1_code 4 = .ok (.return_, 1) := by decide +kernel
theorem pn_6 : plainName "java/lang/Record" = true := by first | (simp [plainName, overriddenIn]; done) | decide +kernel
theorem efinit5 (m : MethodId) (o0_ : Addr) : entryFrame m #[(.ref o0_)] 1 = mkF m 0 #[lvR o0_] [] := by first | (simp [entryFrame, mkF, argsToLocals, Value.category]; done) | rfl
def Qinit5 (Z : State) (o0_ : Addr) (h0 : Heap) (n0 : Nat) (v : Option Value) (h : Heap) (L : List Loc) : Prop := v = none ∧ Fr n0 L ∧ h = h0
set_option maxRecDepth 65536 in
set_option maxHeartbeats 40000000 in
theorem rminit5 (l : Launch) (Z : State) (a0 : Array Value) (hw : ∀ d ∈ tables_1, d.before a0 Z = true) (ws : List Jvm.Cond) (o0_ : Addr) (h0 : Heap) (n0 : Nat) (O0 : Old Z n0 h0) (P0 : Exa Z h0 o0_ cn2) (P1 : Fld Z h0 o0_ cn2 "n" "I" (.int (0 : Int32))) (P2 : Fld Z h0 o0_ cn2 "r" "D" (.double (0 : UInt64))) (P3 : Fld Z h0 o0_ cn2 "rHat" "D" (.double (0 : UInt64))) (P4 : Fld Z h0 o0_ cn2 "p" "D" (.double (0 : UInt64))) (P5 : Fld Z h0 o0_ cn2 "accuracy" "D" (.double (0 : UInt64))) (P6 : Fld Z h0 o0_ cn2 "share" "D" (.double (0 : UInt64))) (P7 : Fld Z h0 o0_ cn2 "cp" "D" (.double (0 : UInt64))) :
    MetFree l (⟨"java/lang/Record", "<init>", "()V"⟩ : MethodName) (head1 (Jvm.Cond.code (⟨"java/lang/Record", "<init>", "()V"⟩ : MethodName) jdk_30_method_1_code 1 none :: ws) ({ frames := 1, cells := 0, slots := 0, locals := 12 } : Room)) (fun a U => a = #[(.ref o0_)] ∧ Z.Warmed39 U.vm ∧ U.heap = h0) (fun _ _ _ _ _ => True) (fun _ U o U' => ∃ v L, o = .returned v ∧ Qinit5 Z o0_ h0 n0 v U'.heap L ∧ FrameEnd U o U' L ({ frames := 1, cells := 0, slots := 0, locals := 12 } : Room).cells ({ frames := 1, cells := 0, slots := 0, locals := 12 } : Room).slots) := by
  refine MetFree.of_bodySF (plainFor_of_name pn_6) hisR ?_
  intro p e s m args below meth c s₁ Bd hml0 hP hK
  obtain ⟨rfl, hZ, hh⟩ := hP
  have hx := Bd.exec
  have hby := Bd.bytes
  have hml : c.maxLocals = 1 := hml0
  have hown : s.vm.findClass "java/lang/Record" = some m.cls := findClass_of_methodNamed Bd.named
  have hnm := (name_of_methodNamed Bd.named Bd.method).1
  have X0 : Stand p l e ({ frames := 1, cells := 0, slots := 0, locals := 12 } : Room) s m #[(.ref o0_)] below meth c s₁ [] 0 0 := Stand.of_body Bd
  have e0 : s₁.heap = h0 := by rw [← hh, Bd.state]; rfl
  have N0 := Fr.nil n0
  obtain ⟨G, pre0, hG⟩ : ∃ G : State → Prop, (∀ t, own_S p e below m s₁ 0 #[lvR o0_] [] t → G t) ∧ (∀ t, G t → Steps p.tables e below (s₁.setTop (entryFrame m #[(.ref o0_)] 1)) t) := ⟨fun t => Steps p.tables e below (s₁.setTop (entryFrame m #[(.ref o0_)] 1)) t, fun t k => castTop (efinit5 m o0_) k, fun _ k => k⟩
  have K0 : Keep h0 h0 [] := Keep.refl _ _
  obtain ⟨T1, X1, e1, st1⟩ := initO X0 hx hZ hown (own_w hw 102 rfl) (own_w hw 9 rfl) (own_w hw 10 rfl) e0 (g := (mkF m 1 #[lvR o0_] [(.ref o0_)])) rfl (by rw [hml]; rfl) rfl (hb hby d13_1) (by decide) (W := 0) (by show 2 * 0 + _ ≤ _; exact Nat.le_of_eq rfl) (by decide)
  have pre2 : ∀ t, own_S p e below m T1 4 #[lvR o0_] [] t → G t := by
    intro t kt
    refine pre0 t ?_
    show own_S p e below m s₁ 0 #[lvR o0_] [] _
    refine XS.aloadN X0.here hx rfl (hb hby d13_0) rfl rfl ?_
    show own_S p e below m s₁ 1 #[lvR o0_] [(.ref o0_)] _
    refine st1 _ ?_
    exact kt
  obtain ⟨fs, hr, hrun, hended, hW, hsame⟩ := X1.leave (v := none) (fun _ => rfl)
  refine ⟨_, _, hG _ (pre2 _ (X1.returnOut hx Bd.returns (hb hby d13_4) hr)), hrun, hended, _, _, rfl, ?_, ⟨_, rfl⟩, hW, hsame.mono (by decide) (by decide)⟩
  show Qinit5 Z o0_ h0 n0 _ T1.heap _
  rw [e1]
  exact ⟨rfl, N0, rfl⟩
theorem d12_4 : decode prog_42_method_1_code 4 = .ok (.aload_n 0, 1) := by decide +kernel
theorem d12_5 : decode prog_42_method_1_code 5 = .ok (.iload_n 1, 1) := by decide +kernel
theorem d12_6 : decode prog_42_method_1_code 6 = .ok (.putfield 7, 3) := by decide +kernel
theorem d12_9 : decode prog_42_method_1_code 9 = .ok (.aload_n 0, 1) := by decide +kernel
theorem d12_10 : decode prog_42_method_1_code 10 = .ok (.dload_n 2, 1) := by decide +kernel
theorem d12_11 : decode prog_42_method_1_code 11 = .ok (.putfield 13, 3) := by decide +kernel
theorem d12_14 : decode prog_42_method_1_code 14 = .ok (.aload_n 0, 1) := by decide +kernel
theorem d12_15 : decode prog_42_method_1_code 15 = .ok (.dload 4, 2) := by decide +kernel
theorem d12_17 : decode prog_42_method_1_code 17 = .ok (.putfield 17, 3) := by decide +kernel
theorem d12_20 : decode prog_42_method_1_code 20 = .ok (.aload_n 0, 1) := by decide +kernel
theorem d12_21 : decode prog_42_method_1_code 21 = .ok (.dload 6, 2) := by decide +kernel
theorem d12_23 : decode prog_42_method_1_code 23 = .ok (.putfield 20, 3) := by decide +kernel
theorem d12_26 : decode prog_42_method_1_code 26 = .ok (.aload_n 0, 1) := by decide +kernel
theorem d12_27 : decode prog_42_method_1_code 27 = .ok (.dload 8, 2) := by decide +kernel
theorem d12_29 : decode prog_42_method_1_code 29 = .ok (.putfield 23, 3) := by decide +kernel
theorem d12_32 : decode prog_42_method_1_code 32 = .ok (.aload_n 0, 1) := by decide +kernel
theorem d12_33 : decode prog_42_method_1_code 33 = .ok (.dload 10, 2) := by decide +kernel
theorem d12_35 : decode prog_42_method_1_code 35 = .ok (.putfield 26, 3) := by decide +kernel
theorem d12_38 : decode prog_42_method_1_code 38 = .ok (.aload_n 0, 1) := by decide +kernel
theorem d12_39 : decode prog_42_method_1_code 39 = .ok (.dload 12, 2) := by decide +kernel
theorem d12_41 : decode prog_42_method_1_code 41 = .ok (.putfield 29, 3) := by decide +kernel
theorem d12_44 : decode prog_42_method_1_code 44 = .ok (.return_, 1) := by decide +kernel
theorem pn_7 : plainName "com/example/shortlist/shortlist/SelectionMeasures$Row" = true := by first | (simp [plainName, overriddenIn]; done) | decide +kernel
theorem efinit4 (m : MethodId) (o0_ : Addr) (d0_ : UInt64) (d1_ : UInt64) (d2_ : UInt64) (d3_ : UInt64) (d4_ : UInt64) (d5_ : UInt64) : entryFrame m #[(.ref o0_), (.int (1 : Int32)), (.double d0_), (.double d1_), (.double d2_), (.double d3_), (.double d4_), (.double d5_)] 14 = mkF m 0 #[lvR o0_, lvI (1 : Int32), lvD d0_, .second, lvD d1_, .second, lvD d2_, .second, lvD d3_, .second, lvD d4_, .second, lvD d5_, .second] [] := by first | (simp [entryFrame, mkF, argsToLocals, Value.category]; done) | rfl
def Qinit4 (Z : State) (o0_ : Addr) (d0_ : UInt64) (d1_ : UInt64) (d2_ : UInt64) (d3_ : UInt64) (d4_ : UInt64) (d5_ : UInt64) (h0 : Heap) (n0 : Nat) (v : Option Value) (h : Heap) (L : List Loc) : Prop := v = none ∧ Fr n0 L ∧ Keep h0 h [o0_] ∧ Exa Z h o0_ cn2 ∧ Fld Z h o0_ cn2 "n" "I" (.int (1 : Int32)) ∧ Fld Z h o0_ cn2 "r" "D" (.double d0_) ∧ Fld Z h o0_ cn2 "rHat" "D" (.double d1_) ∧ Fld Z h o0_ cn2 "p" "D" (.double d2_) ∧ Fld Z h o0_ cn2 "accuracy" "D" (.double d3_) ∧ Fld Z h o0_ cn2 "share" "D" (.double d4_) ∧ Fld Z h o0_ cn2 "cp" "D" (.double d5_)
abbrev mn3 : MethodName := ⟨"com/example/shortlist/shortlist/SelectionMeasures$Row", "<init>", "(IDDDDDD)V"⟩
set_option maxRecDepth 65536 in
set_option maxHeartbeats 40000000 in
theorem rminit4 (l : Launch) (Z : State) (a0 : Array Value) (hw : ∀ d ∈ tables_1, d.before a0 Z = true) (ws : List Jvm.Cond) (o0_ : Addr) (d0_ : UInt64) (d1_ : UInt64) (d2_ : UInt64) (d3_ : UInt64) (d4_ : UInt64) (d5_ : UInt64) (h0 : Heap) (n0 : Nat) (O0 : Old Z n0 h0) (P0 : Exa Z h0 o0_ cn2) (P1 : Fld Z h0 o0_ cn2 "n" "I" (.int (0 : Int32))) (P2 : Fld Z h0 o0_ cn2 "r" "D" (.double (0 : UInt64))) (P3 : Fld Z h0 o0_ cn2 "rHat" "D" (.double (0 : UInt64))) (P4 : Fld Z h0 o0_ cn2 "p" "D" (.double (0 : UInt64))) (P5 : Fld Z h0 o0_ cn2 "accuracy" "D" (.double (0 : UInt64))) (P6 : Fld Z h0 o0_ cn2 "share" "D" (.double (0 : UInt64))) (P7 : Fld Z h0 o0_ cn2 "cp" "D" (.double (0 : UInt64))) (P8 : n0 ≤ o0_) :
    MetFree l mn3 (head1 (Jvm.Cond.code mn3 prog_42_method_1_code 14 none :: ws) ({ frames := 2, cells := 0, slots := 0, locals := 24 } : Room)) (fun a U => a = #[(.ref o0_), (.int (1 : Int32)), (.double d0_), (.double d1_), (.double d2_), (.double d3_), (.double d4_), (.double d5_)] ∧ Z.Warmed39 U.vm ∧ U.heap = h0) (fun _ _ _ _ _ => True) (fun _ U o U' => ∃ v L, o = .returned v ∧ Qinit4 Z o0_ d0_ d1_ d2_ d3_ d4_ d5_ h0 n0 v U'.heap L ∧ FrameEnd U o U' L ({ frames := 2, cells := 0, slots := 0, locals := 24 } : Room).cells ({ frames := 2, cells := 0, slots := 0, locals := 24 } : Room).slots) := by
  refine MetFree.of_bodySF (plainFor_of_name pn_7) hisR ?_
  intro p e s m args below meth c s₁ Bd hml0 hP hK
  obtain ⟨rfl, hZ, hh⟩ := hP
  have hx := Bd.exec
  have hby := Bd.bytes
  have hml : c.maxLocals = 14 := hml0
  have hown : s.vm.findClass "com/example/shortlist/shortlist/SelectionMeasures$Row" = some m.cls := findClass_of_methodNamed Bd.named
  have hnm := (name_of_methodNamed Bd.named Bd.method).1
  have X0 : Stand p l e ({ frames := 2, cells := 0, slots := 0, locals := 24 } : Room) s m #[(.ref o0_), (.int (1 : Int32)), (.double d0_), (.double d1_), (.double d2_), (.double d3_), (.double d4_), (.double d5_)] below meth c s₁ [] 0 0 := Stand.of_body Bd
  have e0 : s₁.heap = h0 := by rw [← hh, Bd.state]; rfl
  have N0 := Fr.nil n0
  obtain ⟨G, pre0, hG⟩ : ∃ G : State → Prop, (∀ t, own_S p e below m s₁ 0 #[lvR o0_, lvI (1 : Int32), lvD d0_, .second, lvD d1_, .second, lvD d2_, .second, lvD d3_, .second, lvD d4_, .second, lvD d5_, .second] [] t → G t) ∧ (∀ t, G t → Steps p.tables e below (s₁.setTop (entryFrame m #[(.ref o0_), (.int (1 : Int32)), (.double d0_), (.double d1_), (.double d2_), (.double d3_), (.double d4_), (.double d5_)] 14)) t) := ⟨fun t => Steps p.tables e below (s₁.setTop (entryFrame m #[(.ref o0_), (.int (1 : Int32)), (.double d0_), (.double d1_), (.double d2_), (.double d3_), (.double d4_), (.double d5_)] 14)) t, fun t k => castTop (efinit4 m o0_ d0_ d1_ d2_ d3_ d4_ d5_) k, fun _ k => k⟩
  have K0 : Keep h0 h0 [o0_] := Keep.refl _ _
  obtain ⟨_, _, ⟨T1, L1, k1, n1⟩, -, X1, ⟨Lc1, hQ1, l1, y1, z1⟩, st1⟩ := X0.specialBack hx (y := (⟨"java/lang/Record", "<init>", "()V"⟩ : MethodName)) rfl hown (mvT hZ (own_w hw 97 rfl)) (mvT hZ (own_w hw 98 rfl)) (mvT hZ (own_w hw 101 rfl)) (by decide) (backOf (W := 0) (rminit5 l Z a0 hw [] o0_ h0 n0 O0 P0 P1 P2 P3 P4 P5 P6 P7) hZ (own_w hw 101 rfl) (own_w hw 100 rfl) (by decide) (by decide)) (g := (mkF m 1 #[lvR o0_, lvI (1 : Int32), lvD d0_, .second, lvD d1_, .second, lvD d2_, .second, lvD d3_, .second, lvD d4_, .second, lvD d5_, .second] [(.ref o0_)])) rfl (by rw [hml]; rfl) (Steps.refl _) (a := o0_) (argsL := []) (rest := []) (lenOf pd_5 rfl) rfl (by show 2 * 0 + _ ≤ _; exact Nat.le_of_eq rfl) (hb hby d12_1) (fun _ _ => ⟨rfl, e0, (by decide : 0 + 0 ≤ _), (by decide : 0 + 0 ≤ _)⟩)
  dsimp only [Pt.U, Pt.locs, Pt.cells, Pt.slots] at X1 l1 y1 z1 st1 hQ1
  subst l1 y1 z1
  obtain ⟨h1, e1⟩ : ∃ z, T1.heap = z := ⟨_, rfl⟩
  rw [e1] at hQ1
  obtain ⟨rfl, N1q, hh1⟩ := hQ1
  have N2 := Fr.app N0 N1q
  have e1' : T1.heap = h0 := e1.trans hh1
  obtain ⟨T3, h3, X3, e3, W3, st3⟩ := putF X1 hx hZ hown (host := "") (Or.inl (own_w hw 103 rfl)) Via.refl e1' P1 P0 (Or.inr ⟨(own_w hw 104 rfl), rfl, hnm⟩) (own_w hw 92 rfl) (ty := .int) (by decide) rfl rfl (g := (mkF m 6 #[lvR o0_, lvI (1 : Int32), lvD d0_, .second, lvD d1_, .second, lvD d2_, .second, lvD d3_, .second, lvD d4_, .second, lvD d5_, .second] [(.int (1 : Int32)), (.ref o0_)])) rfl rfl (hb hby d12_6)
  have N4 := Fr.snoc X3 N2 P8
  have f5 : Fld Z h3 o0_ cn2 "n" "I" (.int (1 : Int32)) := P1.same W3
  have f6 : Fld Z h3 o0_ cn2 "r" "D" (.double (0 : UInt64)) := P2.other W3 (Or.inr (slot_ne (Or.inr (own_w hw 106 rfl)) (Or.inr (own_w hw 104 rfl)) (by decide) (t := .double) (t' := .int) (by decide) (by decide)))
  have f7 : Exa Z h3 o0_ cn2 := P0.wr W3
  obtain ⟨T8, h8, X8, e8, W8, st8⟩ := putF X3 hx hZ hown (host := "") (Or.inl (own_w hw 105 rfl)) Via.refl e3 f6 f7 (Or.inr ⟨(own_w hw 106 rfl), rfl, hnm⟩) (own_w hw 92 rfl) (ty := .double) (by decide) rfl rfl (g := (mkF m 11 #[lvR o0_, lvI (1 : Int32), lvD d0_, .second, lvD d1_, .second, lvD d2_, .second, lvD d3_, .second, lvD d4_, .second, lvD d5_, .second] [(.double d0_), (.ref o0_)])) rfl rfl (hb hby d12_11)
  have N9 := Fr.snoc X8 N4 P8
  have f10 : Fld Z h8 o0_ cn2 "r" "D" (.double d0_) := f6.same W8
  have f11 : Fld Z h3 o0_ cn2 "rHat" "D" (.double (0 : UInt64)) := P3.other W3 (Or.inr (slot_ne (Or.inr (own_w hw 108 rfl)) (Or.inr (own_w hw 104 rfl)) (by decide) (t := .double) (t' := .int) (by decide) (by decide)))
  have f12 : Fld Z h8 o0_ cn2 "rHat" "D" (.double (0 : UInt64)) := f11.other W8 (Or.inr (slot_ne (Or.inr (own_w hw 108 rfl)) (Or.inr (own_w hw 106 rfl)) (by decide) (t := .double) (t' := .double) (by decide) (by decide)))
  have f13 : Exa Z h8 o0_ cn2 := f7.wr W8
  obtain ⟨T14, h14, X14, e14, W14, st14⟩ := putF X8 hx hZ hown (host := "") (Or.inl (own_w hw 107 rfl)) Via.refl e8 f12 f13 (Or.inr ⟨(own_w hw 108 rfl), rfl, hnm⟩) (own_w hw 92 rfl) (ty := .double) (by decide) rfl rfl (g := (mkF m 17 #[lvR o0_, lvI (1 : Int32), lvD d0_, .second, lvD d1_, .second, lvD d2_, .second, lvD d3_, .second, lvD d4_, .second, lvD d5_, .second] [(.double d1_), (.ref o0_)])) rfl rfl (hb hby d12_17)
  have N15 := Fr.snoc X14 N9 P8
  have f16 : Fld Z h14 o0_ cn2 "rHat" "D" (.double d1_) := f12.same W14
  have f17 : Fld Z h3 o0_ cn2 "p" "D" (.double (0 : UInt64)) := P4.other W3 (Or.inr (slot_ne (Or.inr (own_w hw 110 rfl)) (Or.inr (own_w hw 104 rfl)) (by decide) (t := .double) (t' := .int) (by decide) (by decide)))
  have f18 : Fld Z h8 o0_ cn2 "p" "D" (.double (0 : UInt64)) := f17.other W8 (Or.inr (slot_ne (Or.inr (own_w hw 110 rfl)) (Or.inr (own_w hw 106 rfl)) (by decide) (t := .double) (t' := .double) (by decide) (by decide)))
  have f19 : Fld Z h14 o0_ cn2 "p" "D" (.double (0 : UInt64)) := f18.other W14 (Or.inr (slot_ne (Or.inr (own_w hw 110 rfl)) (Or.inr (own_w hw 108 rfl)) (by decide) (t := .double) (t' := .double) (by decide) (by decide)))
  have f20 : Exa Z h14 o0_ cn2 := f13.wr W14
  obtain ⟨T21, h21, X21, e21, W21, st21⟩ := putF X14 hx hZ hown (host := "") (Or.inl (own_w hw 109 rfl)) Via.refl e14 f19 f20 (Or.inr ⟨(own_w hw 110 rfl), rfl, hnm⟩) (own_w hw 92 rfl) (ty := .double) (by decide) rfl rfl (g := (mkF m 23 #[lvR o0_, lvI (1 : Int32), lvD d0_, .second, lvD d1_, .second, lvD d2_, .second, lvD d3_, .second, lvD d4_, .second, lvD d5_, .second] [(.double d2_), (.ref o0_)])) rfl rfl (hb hby d12_23)
  have N22 := Fr.snoc X21 N15 P8
  have f23 : Fld Z h21 o0_ cn2 "p" "D" (.double d2_) := f19.same W21
  have f24 : Fld Z h3 o0_ cn2 "accuracy" "D" (.double (0 : UInt64)) := P5.other W3 (Or.inr (slot_ne (Or.inr (own_w hw 112 rfl)) (Or.inr (own_w hw 104 rfl)) (by decide) (t := .double) (t' := .int) (by decide) (by decide)))
  have f25 : Fld Z h8 o0_ cn2 "accuracy" "D" (.double (0 : UInt64)) := f24.other W8 (Or.inr (slot_ne (Or.inr (own_w hw 112 rfl)) (Or.inr (own_w hw 106 rfl)) (by decide) (t := .double) (t' := .double) (by decide) (by decide)))
  have f26 : Fld Z h14 o0_ cn2 "accuracy" "D" (.double (0 : UInt64)) := f25.other W14 (Or.inr (slot_ne (Or.inr (own_w hw 112 rfl)) (Or.inr (own_w hw 108 rfl)) (by decide) (t := .double) (t' := .double) (by decide) (by decide)))
  have f27 : Fld Z h21 o0_ cn2 "accuracy" "D" (.double (0 : UInt64)) := f26.other W21 (Or.inr (slot_ne (Or.inr (own_w hw 112 rfl)) (Or.inr (own_w hw 110 rfl)) (by decide) (t := .double) (t' := .double) (by decide) (by decide)))
  have f28 : Exa Z h21 o0_ cn2 := f20.wr W21
  obtain ⟨T29, h29, X29, e29, W29, st29⟩ := putF X21 hx hZ hown (host := "") (Or.inl (own_w hw 111 rfl)) Via.refl e21 f27 f28 (Or.inr ⟨(own_w hw 112 rfl), rfl, hnm⟩) (own_w hw 92 rfl) (ty := .double) (by decide) rfl rfl (g := (mkF m 29 #[lvR o0_, lvI (1 : Int32), lvD d0_, .second, lvD d1_, .second, lvD d2_, .second, lvD d3_, .second, lvD d4_, .second, lvD d5_, .second] [(.double d3_), (.ref o0_)])) rfl rfl (hb hby d12_29)
  have N30 := Fr.snoc X29 N22 P8
  have f31 : Fld Z h29 o0_ cn2 "accuracy" "D" (.double d3_) := f27.same W29
  have f32 : Fld Z h3 o0_ cn2 "share" "D" (.double (0 : UInt64)) := P6.other W3 (Or.inr (slot_ne (Or.inr (own_w hw 114 rfl)) (Or.inr (own_w hw 104 rfl)) (by decide) (t := .double) (t' := .int) (by decide) (by decide)))
  have f33 : Fld Z h8 o0_ cn2 "share" "D" (.double (0 : UInt64)) := f32.other W8 (Or.inr (slot_ne (Or.inr (own_w hw 114 rfl)) (Or.inr (own_w hw 106 rfl)) (by decide) (t := .double) (t' := .double) (by decide) (by decide)))
  have f34 : Fld Z h14 o0_ cn2 "share" "D" (.double (0 : UInt64)) := f33.other W14 (Or.inr (slot_ne (Or.inr (own_w hw 114 rfl)) (Or.inr (own_w hw 108 rfl)) (by decide) (t := .double) (t' := .double) (by decide) (by decide)))
  have f35 : Fld Z h21 o0_ cn2 "share" "D" (.double (0 : UInt64)) := f34.other W21 (Or.inr (slot_ne (Or.inr (own_w hw 114 rfl)) (Or.inr (own_w hw 110 rfl)) (by decide) (t := .double) (t' := .double) (by decide) (by decide)))
  have f36 : Fld Z h29 o0_ cn2 "share" "D" (.double (0 : UInt64)) := f35.other W29 (Or.inr (slot_ne (Or.inr (own_w hw 114 rfl)) (Or.inr (own_w hw 112 rfl)) (by decide) (t := .double) (t' := .double) (by decide) (by decide)))
  have f37 : Exa Z h29 o0_ cn2 := f28.wr W29
  obtain ⟨T38, h38, X38, e38, W38, st38⟩ := putF X29 hx hZ hown (host := "") (Or.inl (own_w hw 113 rfl)) Via.refl e29 f36 f37 (Or.inr ⟨(own_w hw 114 rfl), rfl, hnm⟩) (own_w hw 92 rfl) (ty := .double) (by decide) rfl rfl (g := (mkF m 35 #[lvR o0_, lvI (1 : Int32), lvD d0_, .second, lvD d1_, .second, lvD d2_, .second, lvD d3_, .second, lvD d4_, .second, lvD d5_, .second] [(.double d4_), (.ref o0_)])) rfl rfl (hb hby d12_35)
  have N39 := Fr.snoc X38 N30 P8
  have f40 : Fld Z h38 o0_ cn2 "share" "D" (.double d4_) := f36.same W38
  have f41 : Fld Z h3 o0_ cn2 "cp" "D" (.double (0 : UInt64)) := P7.other W3 (Or.inr (slot_ne (Or.inr (own_w hw 116 rfl)) (Or.inr (own_w hw 104 rfl)) (by decide) (t := .double) (t' := .int) (by decide) (by decide)))
  have f42 : Fld Z h8 o0_ cn2 "cp" "D" (.double (0 : UInt64)) := f41.other W8 (Or.inr (slot_ne (Or.inr (own_w hw 116 rfl)) (Or.inr (own_w hw 106 rfl)) (by decide) (t := .double) (t' := .double) (by decide) (by decide)))
  have f43 : Fld Z h14 o0_ cn2 "cp" "D" (.double (0 : UInt64)) := f42.other W14 (Or.inr (slot_ne (Or.inr (own_w hw 116 rfl)) (Or.inr (own_w hw 108 rfl)) (by decide) (t := .double) (t' := .double) (by decide) (by decide)))
  have f44 : Fld Z h21 o0_ cn2 "cp" "D" (.double (0 : UInt64)) := f43.other W21 (Or.inr (slot_ne (Or.inr (own_w hw 116 rfl)) (Or.inr (own_w hw 110 rfl)) (by decide) (t := .double) (t' := .double) (by decide) (by decide)))
  have f45 : Fld Z h29 o0_ cn2 "cp" "D" (.double (0 : UInt64)) := f44.other W29 (Or.inr (slot_ne (Or.inr (own_w hw 116 rfl)) (Or.inr (own_w hw 112 rfl)) (by decide) (t := .double) (t' := .double) (by decide) (by decide)))
  have f46 : Fld Z h38 o0_ cn2 "cp" "D" (.double (0 : UInt64)) := f45.other W38 (Or.inr (slot_ne (Or.inr (own_w hw 116 rfl)) (Or.inr (own_w hw 114 rfl)) (by decide) (t := .double) (t' := .double) (by decide) (by decide)))
  have f47 : Exa Z h38 o0_ cn2 := f37.wr W38
  obtain ⟨T48, h48, X48, e48, W48, st48⟩ := putF X38 hx hZ hown (host := "") (Or.inl (own_w hw 115 rfl)) Via.refl e38 f46 f47 (Or.inr ⟨(own_w hw 116 rfl), rfl, hnm⟩) (own_w hw 92 rfl) (ty := .double) (by decide) rfl rfl (g := (mkF m 41 #[lvR o0_, lvI (1 : Int32), lvD d0_, .second, lvD d1_, .second, lvD d2_, .second, lvD d3_, .second, lvD d4_, .second, lvD d5_, .second] [(.double d5_), (.ref o0_)])) rfl rfl (hb hby d12_41)
  have N49 := Fr.snoc X48 N39 P8
  have f50 : Fld Z h48 o0_ cn2 "cp" "D" (.double d5_) := f46.same W48
  have pre51 : ∀ t, own_S p e below m T48 44 #[lvR o0_, lvI (1 : Int32), lvD d0_, .second, lvD d1_, .second, lvD d2_, .second, lvD d3_, .second, lvD d4_, .second, lvD d5_, .second] [] t → G t := by
    intro t kt
    refine pre0 t ?_
    show own_S p e below m s₁ 0 #[lvR o0_, lvI (1 : Int32), lvD d0_, .second, lvD d1_, .second, lvD d2_, .second, lvD d3_, .second, lvD d4_, .second, lvD d5_, .second] [] _
    refine XS.aloadN X0.here hx rfl (hb hby d12_0) rfl rfl ?_
    show own_S p e below m s₁ 1 #[lvR o0_, lvI (1 : Int32), lvD d0_, .second, lvD d1_, .second, lvD d2_, .second, lvD d3_, .second, lvD d4_, .second, lvD d5_, .second] [(.ref o0_)] _
    refine st1.trans ?_
    refine XS.aloadN X1.here hx rfl (hb hby d12_4) rfl rfl ?_
    refine XS.iloadN X1.here hx rfl (hb hby d12_5) rfl ?_
    show own_S p e below m T1 6 #[lvR o0_, lvI (1 : Int32), lvD d0_, .second, lvD d1_, .second, lvD d2_, .second, lvD d3_, .second, lvD d4_, .second, lvD d5_, .second] [(.int (1 : Int32)), (.ref o0_)] _
    refine st3 _ ?_
    refine XS.aloadN X3.here hx rfl (hb hby d12_9) rfl rfl ?_
    refine XS.dloadN X3.here hx rfl (hb hby d12_10) rfl ?_
    show own_S p e below m T3 11 #[lvR o0_, lvI (1 : Int32), lvD d0_, .second, lvD d1_, .second, lvD d2_, .second, lvD d3_, .second, lvD d4_, .second, lvD d5_, .second] [(.double d0_), (.ref o0_)] _
    refine st8 _ ?_
    refine XS.aloadN X8.here hx rfl (hb hby d12_14) rfl rfl ?_
    refine XS.dload X8.here hx rfl (hb hby d12_15) rfl ?_
    show own_S p e below m T8 17 #[lvR o0_, lvI (1 : Int32), lvD d0_, .second, lvD d1_, .second, lvD d2_, .second, lvD d3_, .second, lvD d4_, .second, lvD d5_, .second] [(.double d1_), (.ref o0_)] _
    refine st14 _ ?_
    refine XS.aloadN X14.here hx rfl (hb hby d12_20) rfl rfl ?_
    refine XS.dload X14.here hx rfl (hb hby d12_21) rfl ?_
    show own_S p e below m T14 23 #[lvR o0_, lvI (1 : Int32), lvD d0_, .second, lvD d1_, .second, lvD d2_, .second, lvD d3_, .second, lvD d4_, .second, lvD d5_, .second] [(.double d2_), (.ref o0_)] _
    refine st21 _ ?_
    refine XS.aloadN X21.here hx rfl (hb hby d12_26) rfl rfl ?_
    refine XS.dload X21.here hx rfl (hb hby d12_27) rfl ?_
    show own_S p e below m T21 29 #[lvR o0_, lvI (1 : Int32), lvD d0_, .second, lvD d1_, .second, lvD d2_, .second, lvD d3_, .second, lvD d4_, .second, lvD d5_, .second] [(.double d3_), (.ref o0_)] _
    refine st29 _ ?_
    refine XS.aloadN X29.here hx rfl (hb hby d12_32) rfl rfl ?_
    refine XS.dload X29.here hx rfl (hb hby d12_33) rfl ?_
    show own_S p e below m T29 35 #[lvR o0_, lvI (1 : Int32), lvD d0_, .second, lvD d1_, .second, lvD d2_, .second, lvD d3_, .second, lvD d4_, .second, lvD d5_, .second] [(.double d4_), (.ref o0_)] _
    refine st38 _ ?_
    refine XS.aloadN X38.here hx rfl (hb hby d12_38) rfl rfl ?_
    refine XS.dload X38.here hx rfl (hb hby d12_39) rfl ?_
    show own_S p e below m T38 41 #[lvR o0_, lvI (1 : Int32), lvD d0_, .second, lvD d1_, .second, lvD d2_, .second, lvD d3_, .second, lvD d4_, .second, lvD d5_, .second] [(.double d5_), (.ref o0_)] _
    refine st48 _ ?_
    exact kt
  have f53 : Keep h0 h3 [o0_] := K0.wr W3 (Or.inl (List.mem_of_getElem? (i := 0) rfl))
  have f54 : Keep h0 h8 [o0_] := f53.wr W8 (Or.inl (List.mem_of_getElem? (i := 0) rfl))
  have f55 : Keep h0 h14 [o0_] := f54.wr W14 (Or.inl (List.mem_of_getElem? (i := 0) rfl))
  have f56 : Keep h0 h21 [o0_] := f55.wr W21 (Or.inl (List.mem_of_getElem? (i := 0) rfl))
  have f57 : Keep h0 h29 [o0_] := f56.wr W29 (Or.inl (List.mem_of_getElem? (i := 0) rfl))
  have f58 : Keep h0 h38 [o0_] := f57.wr W38 (Or.inl (List.mem_of_getElem? (i := 0) rfl))
  have f59 : Keep h0 h48 [o0_] := f58.wr W48 (Or.inl (List.mem_of_getElem? (i := 0) rfl))
  have f60 : Exa Z h48 o0_ cn2 := f47.wr W48
  have f61 : Fld Z h8 o0_ cn2 "n" "I" (.int (1 : Int32)) := f5.other W8 (Or.inr (slot_ne (Or.inr (own_w hw 104 rfl)) (Or.inr (own_w hw 106 rfl)) (by decide) (t := .int) (t' := .double) (by decide) (by decide)))
  have f62 : Fld Z h14 o0_ cn2 "n" "I" (.int (1 : Int32)) := f61.other W14 (Or.inr (slot_ne (Or.inr (own_w hw 104 rfl)) (Or.inr (own_w hw 108 rfl)) (by decide) (t := .int) (t' := .double) (by decide) (by decide)))
  have f63 : Fld Z h21 o0_ cn2 "n" "I" (.int (1 : Int32)) := f62.other W21 (Or.inr (slot_ne (Or.inr (own_w hw 104 rfl)) (Or.inr (own_w hw 110 rfl)) (by decide) (t := .int) (t' := .double) (by decide) (by decide)))
  have f64 : Fld Z h29 o0_ cn2 "n" "I" (.int (1 : Int32)) := f63.other W29 (Or.inr (slot_ne (Or.inr (own_w hw 104 rfl)) (Or.inr (own_w hw 112 rfl)) (by decide) (t := .int) (t' := .double) (by decide) (by decide)))
  have f65 : Fld Z h38 o0_ cn2 "n" "I" (.int (1 : Int32)) := f64.other W38 (Or.inr (slot_ne (Or.inr (own_w hw 104 rfl)) (Or.inr (own_w hw 114 rfl)) (by decide) (t := .int) (t' := .double) (by decide) (by decide)))
  have f66 : Fld Z h48 o0_ cn2 "n" "I" (.int (1 : Int32)) := f65.other W48 (Or.inr (slot_ne (Or.inr (own_w hw 104 rfl)) (Or.inr (own_w hw 116 rfl)) (by decide) (t := .int) (t' := .double) (by decide) (by decide)))
  have f67 : Fld Z h14 o0_ cn2 "r" "D" (.double d0_) := f10.other W14 (Or.inr (slot_ne (Or.inr (own_w hw 106 rfl)) (Or.inr (own_w hw 108 rfl)) (by decide) (t := .double) (t' := .double) (by decide) (by decide)))
  have f68 : Fld Z h21 o0_ cn2 "r" "D" (.double d0_) := f67.other W21 (Or.inr (slot_ne (Or.inr (own_w hw 106 rfl)) (Or.inr (own_w hw 110 rfl)) (by decide) (t := .double) (t' := .double) (by decide) (by decide)))
  have f69 : Fld Z h29 o0_ cn2 "r" "D" (.double d0_) := f68.other W29 (Or.inr (slot_ne (Or.inr (own_w hw 106 rfl)) (Or.inr (own_w hw 112 rfl)) (by decide) (t := .double) (t' := .double) (by decide) (by decide)))
  have f70 : Fld Z h38 o0_ cn2 "r" "D" (.double d0_) := f69.other W38 (Or.inr (slot_ne (Or.inr (own_w hw 106 rfl)) (Or.inr (own_w hw 114 rfl)) (by decide) (t := .double) (t' := .double) (by decide) (by decide)))
  have f71 : Fld Z h48 o0_ cn2 "r" "D" (.double d0_) := f70.other W48 (Or.inr (slot_ne (Or.inr (own_w hw 106 rfl)) (Or.inr (own_w hw 116 rfl)) (by decide) (t := .double) (t' := .double) (by decide) (by decide)))
  have f72 : Fld Z h21 o0_ cn2 "rHat" "D" (.double d1_) := f16.other W21 (Or.inr (slot_ne (Or.inr (own_w hw 108 rfl)) (Or.inr (own_w hw 110 rfl)) (by decide) (t := .double) (t' := .double) (by decide) (by decide)))
  have f73 : Fld Z h29 o0_ cn2 "rHat" "D" (.double d1_) := f72.other W29 (Or.inr (slot_ne (Or.inr (own_w hw 108 rfl)) (Or.inr (own_w hw 112 rfl)) (by decide) (t := .double) (t' := .double) (by decide) (by decide)))
  have f74 : Fld Z h38 o0_ cn2 "rHat" "D" (.double d1_) := f73.other W38 (Or.inr (slot_ne (Or.inr (own_w hw 108 rfl)) (Or.inr (own_w hw 114 rfl)) (by decide) (t := .double) (t' := .double) (by decide) (by decide)))
  have f75 : Fld Z h48 o0_ cn2 "rHat" "D" (.double d1_) := f74.other W48 (Or.inr (slot_ne (Or.inr (own_w hw 108 rfl)) (Or.inr (own_w hw 116 rfl)) (by decide) (t := .double) (t' := .double) (by decide) (by decide)))
  have f76 : Fld Z h29 o0_ cn2 "p" "D" (.double d2_) := f23.other W29 (Or.inr (slot_ne (Or.inr (own_w hw 110 rfl)) (Or.inr (own_w hw 112 rfl)) (by decide) (t := .double) (t' := .double) (by decide) (by decide)))
  have f77 : Fld Z h38 o0_ cn2 "p" "D" (.double d2_) := f76.other W38 (Or.inr (slot_ne (Or.inr (own_w hw 110 rfl)) (Or.inr (own_w hw 114 rfl)) (by decide) (t := .double) (t' := .double) (by decide) (by decide)))
  have f78 : Fld Z h48 o0_ cn2 "p" "D" (.double d2_) := f77.other W48 (Or.inr (slot_ne (Or.inr (own_w hw 110 rfl)) (Or.inr (own_w hw 116 rfl)) (by decide) (t := .double) (t' := .double) (by decide) (by decide)))
  have f79 : Fld Z h38 o0_ cn2 "accuracy" "D" (.double d3_) := f31.other W38 (Or.inr (slot_ne (Or.inr (own_w hw 112 rfl)) (Or.inr (own_w hw 114 rfl)) (by decide) (t := .double) (t' := .double) (by decide) (by decide)))
  have f80 : Fld Z h48 o0_ cn2 "accuracy" "D" (.double d3_) := f79.other W48 (Or.inr (slot_ne (Or.inr (own_w hw 112 rfl)) (Or.inr (own_w hw 116 rfl)) (by decide) (t := .double) (t' := .double) (by decide) (by decide)))
  have f81 : Fld Z h48 o0_ cn2 "share" "D" (.double d4_) := f40.other W48 (Or.inr (slot_ne (Or.inr (own_w hw 114 rfl)) (Or.inr (own_w hw 116 rfl)) (by decide) (t := .double) (t' := .double) (by decide) (by decide)))
  obtain ⟨fs, hr, hrun, hended, hW, hsame⟩ := X48.leave (v := none) (fun _ => rfl)
  refine ⟨_, _, hG _ (pre51 _ (X48.returnOut hx Bd.returns (hb hby d12_44) hr)), hrun, hended, _, _, rfl, ?_, ⟨_, rfl⟩, hW, hsame.mono (by decide) (by decide)⟩
  show Qinit4 Z o0_ d0_ d1_ d2_ d3_ d4_ d5_ h0 n0 _ T48.heap _
  rw [e48]
  exact ⟨rfl, N49, f59, f60, f66, f71, f75, f78, f80, f81, f50⟩
theorem pd_6 : parseMethodDescriptor "(IDDDDDD)V" = some ⟨[.int, .double, .double, .double, .double, .double, .double], none⟩ := by decide +kernel
theorem d8_122 : decode prog_41_method_5_code 122 = .ok (.invokeinterface 80 2, 5) := by decide +kernel
theorem d14_0 : decode jdk_38_method_25_code 0 = .ok (.aload_n 0, 1) := by decide +kernel
theorem d14_1 : decode jdk_38_method_25_code 1 = .ok (.dup, 1) := by decide +kernel
theorem d14_2 : decode jdk_38_method_25_code 2 = .ok (.getfield 63, 3) := by decide +kernel
theorem d14_5 : decode jdk_38_method_25_code 5 = .ok (.iconst 1, 1) := by decide +kernel
theorem d14_6 : decode jdk_38_method_25_code 6 = .ok (.iadd, 1) := by decide +kernel
theorem d14_7 : decode jdk_38_method_25_code 7 = .ok (.putfield 63, 3) := by decide +kernel
theorem d14_10 : decode jdk_38_method_25_code 10 = .ok (.aload_n 0, 1) := by decide +kernel
theorem d14_11 : decode jdk_38_method_25_code 11 = .ok (.aload_n 1, 1) := by decide +kernel
theorem d14_12 : decode jdk_38_method_25_code 12 = .ok (.aload_n 0, 1) := by decide +kernel
theorem d14_13 : decode jdk_38_method_25_code 13 = .ok (.getfield 9, 3) := by decide +kernel
theorem d14_16 : decode jdk_38_method_25_code 16 = .ok (.aload_n 0, 1) := by decide +kernel
theorem d14_17 : decode jdk_38_method_25_code 17 = .ok (.getfield 48, 3) := by decide +kernel
theorem d14_20 : decode jdk_38_method_25_code 20 = .ok (.invokevirtual 131, 3) := by decide +kernel
theorem d15_0 : decode jdk_38_method_24_code 0 = .ok (.iload_n 3, 1) := by decide +kernel
theorem d15_1 : decode jdk_38_method_24_code 1 = .ok (.aload_n 2, 1) := by decide +kernel
theorem d15_2 : decode jdk_38_method_24_code 2 = .ok (.arraylength, 1) := by decide +kernel
theorem d15_3 : decode jdk_38_method_24_code 3 = .ok (.if_icmp .ne 8, 3) := by decide +kernel
theorem d15_6 : decode jdk_38_method_24_code 6 = .ok (.aload_n 0, 1) := by decide +kernel
theorem d15_7 : decode jdk_38_method_24_code 7 = .ok (.invokevirtual 129, 3) := by decide +kernel
theorem d16_0 : decode jdk_38_method_7_code 0 = .ok (.aload_n 0, 1) := by decide +kernel
theorem d16_1 : decode jdk_38_method_7_code 1 = .ok (.aload_n 0, 1) := by decide +kernel
theorem d16_2 : decode jdk_38_method_7_code 2 = .ok (.getfield 48, 3) := by decide +kernel
theorem d16_5 : decode jdk_38_method_7_code 5 = .ok (.iconst 1, 1) := by decide +kernel
theorem d16_6 : decode jdk_38_method_7_code 6 = .ok (.iadd, 1) := by decide +kernel
theorem d16_7 : decode jdk_38_method_7_code 7 = .ok (.invokevirtual 69, 3) := by decide +kernel
theorem d17_0 : decode jdk_38_method_6_code 0 = .ok (.aload_n 0, 1) := by decide +kernel
theorem d17_1 : decode jdk_38_method_6_code 1 = .ok (.getfield 9, 3) := by decide +kernel
theorem d17_4 : decode jdk_38_method_6_code 4 = .ok (.arraylength, 1) := by decide +kernel
theorem d17_5 : decode jdk_38_method_6_code 5 = .ok (.istore_n 2, 1) := by decide +kernel
theorem d17_6 : decode jdk_38_method_6_code 6 = .ok (.iload_n 2, 1) := by decide +kernel
theorem d17_7 : decode jdk_38_method_6_code 7 = .ok (.ifCond .gt 13, 3) := by decide +kernel
theorem d17_10 : decode jdk_38_method_6_code 10 = .ok (.aload_n 0, 1) := by decide +kernel
theorem d17_11 : decode jdk_38_method_6_code 11 = .ok (.getfield 9, 3) := by decide +kernel
theorem d17_14 : decode jdk_38_method_6_code 14 = .ok (.getstatic 39, 3) := by decide +kernel
theorem d17_17 : decode jdk_38_method_6_code 17 = .ok (.if_acmp .eq 28, 3) := by decide +kernel
theorem d17_45 : decode jdk_38_method_6_code 45 = .ok (.aload_n 0, 1) := by decide +kernel
theorem d17_46 : decode jdk_38_method_6_code 46 = .ok (.bipush 10, 2) := by decide +kernel
theorem d17_48 : decode jdk_38_method_6_code 48 = .ok (.iload_n 1, 1) := by decide +kernel
theorem d17_49 : decode jdk_38_method_6_code 49 = .ok (.invokestatic 79, 3) := by decide +kernel
theorem efmax16 (m : MethodId)  : entryFrame m #[(.int (10 : Int32)), (.int (1 : Int32))] 2 = mkF m 0 #[lvI (10 : Int32), lvI (1 : Int32)] [] := by first | (simp [entryFrame, mkF, argsToLocals, Value.category]; done) | rfl
def Qmax16 (Z : State)  (h0 : Heap) (n0 : Nat) (v : Option Value) (h : Heap) (L : List Loc) : Prop := v = some (.int (10 : Int32)) ∧ Fr n0 L ∧ h = h0
set_option maxRecDepth 65536 in
set_option maxHeartbeats 40000000 in
theorem rmmax16 (l : Launch) (Z : State) (a0 : Array Value) (hw : ∀ d ∈ tables_1, d.before a0 Z = true) (ws : List Jvm.Cond)  (h0 : Heap) (n0 : Nat) (O0 : Old Z n0 h0)  :
    MetFree l (⟨"java/lang/Math", "max", "(II)I"⟩ : MethodName) (head1 (Jvm.Cond.code (⟨"java/lang/Math", "max", "(II)I"⟩ : MethodName) jdk_29_method_65_code 2 (some .int) :: ws) ({ frames := 0, cells := 0, slots := 0, locals := 0 } : Room)) (fun a U => a = #[(.int (10 : Int32)), (.int (1 : Int32))] ∧ Z.Warmed39 U.vm ∧ U.heap = h0) (fun _ _ _ _ _ => True) (fun _ U o U' => ∃ v L, o = .returned v ∧ Qmax16 Z  h0 n0 v U'.heap L ∧ FrameEnd U o U' L ({ frames := 0, cells := 0, slots := 0, locals := 0 } : Room).cells ({ frames := 0, cells := 0, slots := 0, locals := 0 } : Room).slots) := by
  refine MetFree.of_bodySF (Jvm.Free.JP.mathPlain rfl (by decide +kernel)) hisR ?_
  intro p e s m args below meth c s₁ Bd hml0 hP hK
  obtain ⟨rfl, hZ, hh⟩ := hP
  have hx := Bd.exec
  have hby := Bd.bytes
  have hml : c.maxLocals = 2 := hml0
  have hown : s.vm.findClass "java/lang/Math" = some m.cls := findClass_of_methodNamed Bd.named
  have hnm := (name_of_methodNamed Bd.named Bd.method).1
  have X0 : Stand p l e ({ frames := 0, cells := 0, slots := 0, locals := 0 } : Room) s m #[(.int (10 : Int32)), (.int (1 : Int32))] below meth c s₁ [] 0 0 := Stand.of_body Bd
  have e0 : s₁.heap = h0 := by rw [← hh, Bd.state]; rfl
  have N0 := Fr.nil n0
  obtain ⟨G, pre0, hG⟩ : ∃ G : State → Prop, (∀ t, own_S p e below m s₁ 0 #[lvI (10 : Int32), lvI (1 : Int32)] [] t → G t) ∧ (∀ t, G t → Steps p.tables e below (s₁.setTop (entryFrame m #[(.int (10 : Int32)), (.int (1 : Int32))] 2)) t) := ⟨fun t => Steps p.tables e below (s₁.setTop (entryFrame m #[(.int (10 : Int32)), (.int (1 : Int32))] 2)) t, fun t k => castTop (efmax16 m ) k, fun _ k => k⟩
  have K0 : Keep h0 h0 [] := Keep.refl _ _
  have pre1 : ∀ t, own_S p e below m s₁ 10 #[lvI (10 : Int32), lvI (1 : Int32)] [(.int (10 : Int32))] t → G t := by
    intro t kt
    refine pre0 t ?_
    show own_S p e below m s₁ 0 #[lvI (10 : Int32), lvI (1 : Int32)] [] _
    refine XS.iloadN X0.here hx rfl (hb hby d5_0) rfl ?_
    refine XS.iloadN X0.here hx rfl (hb hby d5_1) rfl ?_
    show own_S p e below m s₁ 2 #[lvI (10 : Int32), lvI (1 : Int32)] [(.int (1 : Int32)), (.int (10 : Int32))] _
    refine XS.icmpNo X0.here hx rfl (hb hby d5_2) rfl (flt (by decide : ¬ ((10 : Int32) < (1 : Int32)))).1 ?_
    refine XS.iloadN X0.here hx rfl (hb hby d5_5) rfl ?_
    refine XS.goto X0.here hx rfl (pc0 := 6) (pc' := 10) rfl (hb hby d5_6) (by decide) (by decide) ?_
    exact kt
  obtain ⟨fs, hr, hrun, hended, hW, hsame⟩ := X0.leave (v := some (.int (10 : Int32))) (fun h => by rw [Bd.returns] at h; cases h)
  refine ⟨_, _, hG _ (pre1 _ (retOut X0 hx Bd.returns rfl (Or.inl ⟨rfl, Or.inl rfl, _, rfl⟩) (hb hby d5_10) hr)), hrun, hended, _, _, rfl, ?_, ⟨_, rfl⟩, hW, hsame.mono (by decide) (by decide)⟩
  show Qmax16 Z  h0 n0 _ s₁.heap _
  rw [e0]
  exact ⟨rfl, N0, rfl⟩
theorem pd_7 : parseMethodDescriptor "(II)I" = some ⟨[.int, .int], some .int⟩ := by decide +kernel
theorem d17_52 : decode jdk_38_method_6_code 52 = .ok (.anewarray 7, 3) := by decide +kernel
theorem d17_55 : decode jdk_38_method_6_code 55 = .ok (.dup_x1, 1) := by decide +kernel
theorem d17_56 : decode jdk_38_method_6_code 56 = .ok (.putfield 9, 3) := by decide +kernel
theorem d17_59 : decode jdk_38_method_6_code 59 = .ok (.areturn, 1) := by decide +kernel
theorem efgrow15 (m : MethodId) (o0_ : Addr) : entryFrame m #[(.ref o0_), (.int (1 : Int32))] 4 = mkF m 0 #[lvR o0_, lvI (1 : Int32), .unset, .unset] [] := by first | (simp [entryFrame, mkF, argsToLocals, Value.category]; done) | rfl
def Qgrow15 (Z : State) (o0_ : Addr) (o1_ : Addr) (ko1_ : ClassId) (h0 : Heap) (n0 : Nat) (v : Option Value) (h : Heap) (L : List Loc) : Prop := ∃ k8 : ClassId, ∃ nb8 : Addr, v = some (.ref nb8) ∧ Fr n0 L ∧ Keep h0 h [o0_] ∧ h0.size ≤ nb8 ∧ Exa Z h o0_ "java/util/ArrayList" ∧ Fld Z h o0_ "java/util/AbstractList" "modCount" "I" (.int (1 : Int32)) ∧ Fld Z h o0_ "java/util/ArrayList" "elementData" "[Ljava/lang/Object;" (.ref nb8) ∧ Fld Z h o0_ "java/util/ArrayList" "size" "I" (.int (0 : Int32)) ∧ Arv Z h nb8 k8 (.object "java/lang/Object") (10 : Int32) [.null, .null, .null, .null, .null, .null, .null, .null, .null, .null] .null ∧ Exa Z h nb8 "[Ljava/lang/Object;"
set_option maxRecDepth 65536 in
set_option maxHeartbeats 40000000 in
theorem rmgrow15 (l : Launch) (Z : State) (a0 : Array Value) (hw : ∀ d ∈ tables_1, d.before a0 Z = true) (ws : List Jvm.Cond) (o0_ : Addr) (o1_ : Addr) (ko1_ : ClassId) (h0 : Heap) (n0 : Nat) (O0 : Old Z n0 h0) (P0 : Exa Z h0 o0_ "java/util/ArrayList") (P1 : Fld Z h0 o0_ "java/util/AbstractList" "modCount" "I" (.int (1 : Int32))) (P2 : Fld Z h0 o0_ "java/util/ArrayList" "elementData" "[Ljava/lang/Object;" (.ref o1_)) (P3 : Fld Z h0 o0_ "java/util/ArrayList" "size" "I" (.int (0 : Int32))) (P4 : Exa Z Z.heap o1_ "[Ljava/lang/Object;") (P5 : Arv Z Z.heap o1_ ko1_ (.object "java/lang/Object") (0 : Int32) [] .null) (P6 : Sta Z Z.heap "java/util/ArrayList" "DEFAULTCAPACITY_EMPTY_ELEMENTDATA" "[Ljava/lang/Object;" (.ref o1_)) (P7 : n0 ≤ o0_) :
    MetFree l (⟨"java/util/ArrayList", "grow", "(I)[Ljava/lang/Object;"⟩ : MethodName) (head1 (Jvm.Cond.code (⟨"java/util/ArrayList", "grow", "(I)[Ljava/lang/Object;"⟩ : MethodName) jdk_38_method_6_code 4 (some (.array (.object "java/lang/Object"))) :: ws) ({ frames := 1, cells := 1, slots := 10, locals := 14 } : Room)) (fun a U => a = #[(.ref o0_), (.int (1 : Int32))] ∧ Z.Warmed39 U.vm ∧ U.heap = h0) (fun _ _ _ _ _ => True) (fun _ U o U' => ∃ v L, o = .returned v ∧ Qgrow15 Z o0_ o1_ ko1_ h0 n0 v U'.heap L ∧ FrameEnd U o U' L ({ frames := 1, cells := 1, slots := 10, locals := 14 } : Room).cells ({ frames := 1, cells := 1, slots := 10, locals := 14 } : Room).slots) := by
  refine MetFree.of_bodySF (plainFor_of_name pn_5) hisR ?_
  intro p e s m args below meth c s₁ Bd hml0 hP hK
  obtain ⟨rfl, hZ, hh⟩ := hP
  have hx := Bd.exec
  have hby := Bd.bytes
  have hml : c.maxLocals = 4 := hml0
  have hown : s.vm.findClass "java/util/ArrayList" = some m.cls := findClass_of_methodNamed Bd.named
  have hnm := (name_of_methodNamed Bd.named Bd.method).1
  have X0 : Stand p l e ({ frames := 1, cells := 1, slots := 10, locals := 14 } : Room) s m #[(.ref o0_), (.int (1 : Int32))] below meth c s₁ [] 0 0 := Stand.of_body Bd
  have e0 : s₁.heap = h0 := by rw [← hh, Bd.state]; rfl
  have N0 := Fr.nil n0
  obtain ⟨G, pre0, hG⟩ : ∃ G : State → Prop, (∀ t, own_S p e below m s₁ 0 #[lvR o0_, lvI (1 : Int32), .unset, .unset] [] t → G t) ∧ (∀ t, G t → Steps p.tables e below (s₁.setTop (entryFrame m #[(.ref o0_), (.int (1 : Int32))] 4)) t) := ⟨fun t => Steps p.tables e below (s₁.setTop (entryFrame m #[(.ref o0_), (.int (1 : Int32))] 4)) t, fun t k => castTop (efgrow15 m o0_) k, fun _ k => k⟩
  have K0 : Keep h0 h0 [o0_] := Keep.refl _ _
  obtain ⟨T1, X1, e1, st1⟩ := getF X0 hx hZ hown (host := "") (Or.inl (own_w hw 89 rfl)) Via.refl e0 P2 (g := (mkF m 1 #[lvR o0_, lvI (1 : Int32), .unset, .unset] [(.ref o0_)])) rfl rfl (hb hby d17_1)
  have f3 : Arv Z h0 o1_ ko1_ (.object "java/lang/Object") (0 : Int32) [] .null := P5.ext O0.2
  obtain ⟨c2, r2, q2, s2, z2, y2, G2⟩ := id f3
  obtain ⟨T4, X4, e4, st4⟩ := getF X1 hx hZ hown (host := "") (Or.inl (own_w hw 89 rfl)) Via.refl e1 P2 (g := (mkF m 11 #[lvR o0_, lvI (1 : Int32), lvI (0 : Int32), .unset] [(.ref o0_)])) rfl rfl (hb hby d17_11)
  obtain ⟨T5, X5, e5, st5⟩ := getS2 X4 hx hZ hown (host := "") (Or.inl (own_w hw 88 rfl)) Via.refl e4 (P6.ext O0.2) (g := (mkF m 14 #[lvR o0_, lvI (1 : Int32), lvI (0 : Int32), .unset] [(.ref o1_)])) rfl (hb hby d17_14)
  obtain ⟨_, _, ⟨T6, L6, k6, n6⟩, -, X6, ⟨Lc6, hQ6, l6, y6, z6⟩, st6⟩ := Jvm.LawKit.callS X5 hx (y := (⟨"java/lang/Math", "max", "(II)I"⟩ : MethodName)) hown (mvT hZ (own_w hw 145 rfl)) (mvT hZ (own_w hw 146 rfl)) (mvT hZ (own_w hw 147 rfl)) (mvT hZ (own_w hw 148 rfl)) (by decide) (backOf (W := 1) (rmmax16 l Z a0 hw []  h0 n0 O0 ) hZ (own_w hw 148 rfl) (own_w hw 147 rfl) (by decide) (by decide)) (g := (mkF m 49 #[lvR o0_, lvI (1 : Int32), lvI (0 : Int32), .unset] [(.int (1 : Int32)), (.int (10 : Int32)), (.ref o0_)])) rfl (by rw [hml]; rfl) (argsL := [(.int (10 : Int32)), (.int (1 : Int32))]) (rest := [(.ref o0_)]) (lenOf pd_7 rfl) rfl (by show 2 * 0 + _ ≤ _; exact Nat.le_of_eq rfl) (hb hby d17_49) (fun _ _ => ⟨rfl, e5, (by decide : 0 + 0 ≤ _), (by decide : 0 + 0 ≤ _)⟩)
  dsimp only [Pt.U, Pt.locs, Pt.cells, Pt.slots] at X6 l6 y6 z6 st6 hQ6
  subst l6 y6 z6
  obtain ⟨h6, e6⟩ : ∃ z, T6.heap = z := ⟨_, rfl⟩
  rw [e6] at hQ6
  obtain ⟨rfl, N6q, hh6⟩ := hQ6
  have N7 := Fr.app N0 N6q
  have e6' : T6.heap = h0 := e6.trans hh6
  obtain ⟨T8, h8, k8, X8, e8, E8, A8, Z8, O8, st8⟩ := newRE X6 hx hZ hown (own_w hw 149 rfl) (own_w hw 150 rfl) e6' (g := (mkF m 52 #[lvR o0_, lvI (1 : Int32), lvI (0 : Int32), .unset] [(.int (10 : Int32)), (.ref o0_)])) rfl (hb hby d17_52) rfl (by decide) (cap := 10) (by decide) (by decide) (by decide) (by decide) (ad := "[Ljava/lang/Object;") (by decide)
  obtain ⟨b8, g8⟩ : ∃ z, z = h0.size := ⟨_, rfl⟩
  rw [← g8] at A8 Z8 st8
  have ge9 : n0 ≤ b8 := Nat.le_trans (Nat.le_trans (Nat.le_of_eq O0.1.symm) O0.2.1) (Nat.le_of_eq g8.symm)
  have sz10 : h0.size ≤ b8 := Nat.le_trans K0.1 (Nat.le_of_eq g8.symm)
  have f11 : Arv Z h8 b8 k8 (.object "java/lang/Object") (10 : Int32) [.null, .null, .null, .null, .null, .null, .null, .null, .null, .null] .null := (Arv.new A8 (by decide)).pad (pad_rep [] .null 10)
  have f12 : Fld Z h8 o0_ "java/util/ArrayList" "elementData" "[Ljava/lang/Object;" (.ref o1_) := P2.ext E8
  have f13 : Exa Z h8 o0_ "java/util/ArrayList" := P0.ext E8
  obtain ⟨T14, h14, X14, e14, W14, st14⟩ := putF X8 hx hZ hown (host := "") (Or.inl (own_w hw 89 rfl)) Via.refl e8 f12 f13 (Or.inl (own_w hw 90 rfl)) (own_w hw 68 rfl) (ty := (.array (.object "java/lang/Object"))) (by decide) rfl rfl (g := (mkF m 56 #[lvR o0_, lvI (1 : Int32), lvI (0 : Int32), .unset] [(.ref b8), (.ref o0_), (.ref b8)])) rfl rfl (hb hby d17_56)
  have N15 := Fr.snoc X14 N7 P7
  have f16 : Fld Z h14 o0_ "java/util/ArrayList" "elementData" "[Ljava/lang/Object;" (.ref b8) := f12.same W14
  have pre17 : ∀ t, own_S p e below m T14 59 #[lvR o0_, lvI (1 : Int32), lvI (0 : Int32), .unset] [(.ref b8)] t → G t := by
    intro t kt
    refine pre0 t ?_
    show own_S p e below m s₁ 0 #[lvR o0_, lvI (1 : Int32), .unset, .unset] [] _
    refine XS.aloadN X0.here hx rfl (hb hby d17_0) rfl rfl ?_
    show own_S p e below m s₁ 1 #[lvR o0_, lvI (1 : Int32), .unset, .unset] [(.ref o0_)] _
    refine st1 _ ?_
    show own_S p e below m T1 4 #[lvR o0_, lvI (1 : Int32), .unset, .unset] [(.ref o1_)] _
    refine X1.arraylength hx (by rw [e1]; exact r2.1) (State.isArrayOf_alike hZ.alike r2.2.1) (g := (mkF m 4 #[lvR o0_, lvI (1 : Int32), .unset, .unset] [(.ref o1_)])) rfl rfl (hb hby d17_4) _ ?_
    rw [len_of s2 z2]
    refine XS.istoreN X1.here hx rfl (hb hby d17_5) rfl (l' := #[lvR o0_, lvI (1 : Int32), lvI (0 : Int32), .unset]) rfl ?_
    refine XS.iloadN X1.here hx rfl (hb hby d17_6) rfl ?_
    show own_S p e below m T1 7 #[lvR o0_, lvI (1 : Int32), lvI (0 : Int32), .unset] [(.int (0 : Int32))] _
    refine XS.ifNo X1.here hx rfl (hb hby d17_7) rfl ((if0 _ _).trans (flt (by decide : ¬ ((0 : Int32) < (0 : Int32)))).2.2.1) ?_
    refine XS.aloadN X1.here hx rfl (hb hby d17_10) rfl rfl ?_
    show own_S p e below m T1 11 #[lvR o0_, lvI (1 : Int32), lvI (0 : Int32), .unset] [(.ref o0_)] _
    refine st4 _ ?_
    show own_S p e below m T4 14 #[lvR o0_, lvI (1 : Int32), lvI (0 : Int32), .unset] [(.ref o1_)] _
    refine st5 _ ?_
    show own_S p e below m T5 17 #[lvR o0_, lvI (1 : Int32), lvI (0 : Int32), .unset] [(.ref o1_), (.ref o1_)] _
    refine Jvm.RoadKit.acmp (g := (mkF m 17 #[lvR o0_, lvI (1 : Int32), lvI (0 : Int32), .unset] [(.ref o1_), (.ref o1_)])) X5 hx rfl rfl rfl (pc0 := 17) (pc' := 45) (same := true) rfl (hb hby d17_17) rfl (decide_eq_true rfl) (by decide) (by decide) ?_
    refine XS.aloadN X5.here hx rfl (hb hby d17_45) rfl rfl ?_
    refine XS.bipush X5.here hx rfl (hb hby d17_46) ?_
    refine XS.iloadN X5.here hx rfl (hb hby d17_48) rfl ?_
    show own_S p e below m T5 49 #[lvR o0_, lvI (1 : Int32), lvI (0 : Int32), .unset] [(.int (1 : Int32)), (.int (10 : Int32)), (.ref o0_)] _
    refine st6 _ ?_
    show own_S p e below m T6 52 #[lvR o0_, lvI (1 : Int32), lvI (0 : Int32), .unset] [(.int (10 : Int32)), (.ref o0_)] _
    refine st8 _ ?_
    show own_S p e below m T8 55 #[lvR o0_, lvI (1 : Int32), lvI (0 : Int32), .unset] [(.ref b8), (.ref o0_)] _
    refine XS.dupX1 X8.here hx rfl (hb hby d17_55) rfl rfl rfl ?_
    show own_S p e below m T8 56 #[lvR o0_, lvI (1 : Int32), lvI (0 : Int32), .unset] [(.ref b8), (.ref o0_), (.ref b8)] _
    refine st14 _ ?_
    exact kt
  have f19 : Keep h0 h8 [o0_] := K0.ext E8
  have f20 : Keep h0 h14 [o0_] := f19.wr W14 (Or.inl (List.mem_of_getElem? (i := 0) rfl))
  have f21 : Exa Z h14 o0_ "java/util/ArrayList" := f13.wr W14
  have f22 : Fld Z h8 o0_ "java/util/AbstractList" "modCount" "I" (.int (1 : Int32)) := P1.ext E8
  have f23 : Fld Z h14 o0_ "java/util/AbstractList" "modCount" "I" (.int (1 : Int32)) := f22.other W14 (Or.inr (slot_ne (Or.inl (own_w hw 87 rfl)) (Or.inl (own_w hw 90 rfl)) (by decide) (t := .int) (t' := (.array (.object "java/lang/Object"))) (by decide) (by decide)))
  have f24 : Fld Z h8 o0_ "java/util/ArrayList" "size" "I" (.int (0 : Int32)) := P3.ext E8
  have f25 : Fld Z h14 o0_ "java/util/ArrayList" "size" "I" (.int (0 : Int32)) := f24.other W14 (Or.inr (slot_ne (Or.inl (own_w hw 129 rfl)) (Or.inl (own_w hw 90 rfl)) (by decide) (t := .int) (t' := (.array (.object "java/lang/Object"))) (by decide) (by decide)))
  have ne27 : o0_ ≠ b8 := Nat.ne_of_lt (Nat.lt_of_lt_of_le P0.lt (Nat.le_of_eq g8.symm))
  have f26 : Arv Z h14 b8 k8 (.object "java/lang/Object") (10 : Int32) [.null, .null, .null, .null, .null, .null, .null, .null, .null, .null] .null := f11.other W14 (Ne.symm ne27)
  have f28 : Exa Z h14 b8 "[Ljava/lang/Object;" := Z8.wr W14
  obtain ⟨fs, hr, hrun, hended, hW, hsame⟩ := X14.leave (v := some (.ref b8)) (fun h => by rw [Bd.returns] at h; cases h)
  refine ⟨_, _, hG _ (pre17 _ (retOut X14 hx Bd.returns rfl (Or.inr (Or.inr (Or.inr (Or.inr ⟨rfl, rfl, rfl⟩)))) (hb hby d17_59) hr)), hrun, hended, _, _, rfl, ?_, ⟨_, rfl⟩, hW, hsame.mono (by decide) (by decide)⟩
  show Qgrow15 Z o0_ o1_ ko1_ h0 n0 _ T14.heap _
  rw [e14]
  exact ⟨k8, b8, rfl, N15, f20, sz10, f21, f23, f16, f25, f26, f28⟩
theorem pd_8 : parseMethodDescriptor "(I)[Ljava/lang/Object;" = some ⟨[.int], some (.array (.object "java/lang/Object"))⟩ := by decide +kernel
theorem d16_10 : decode jdk_38_method_7_code 10 = .ok (.areturn, 1) := by decide +kernel
theorem efgrow13 (m : MethodId) (o0_ : Addr) : entryFrame m #[(.ref o0_)] 1 = mkF m 0 #[lvR o0_] [] := by first | (simp [entryFrame, mkF, argsToLocals, Value.category]; done) | rfl
def Qgrow13 (Z : State) (o0_ : Addr) (o1_ : Addr) (ko1_ : ClassId) (h0 : Heap) (n0 : Nat) (v : Option Value) (h : Heap) (L : List Loc) : Prop := ∃ k8_2 : ClassId, ∃ nnb8_2 : Addr, v = some (.ref nnb8_2) ∧ Fr n0 L ∧ Keep h0 h [o0_] ∧ h0.size ≤ nnb8_2 ∧ Exa Z h o0_ "java/util/ArrayList" ∧ Fld Z h o0_ "java/util/AbstractList" "modCount" "I" (.int (1 : Int32)) ∧ Fld Z h o0_ "java/util/ArrayList" "elementData" "[Ljava/lang/Object;" (.ref nnb8_2) ∧ Fld Z h o0_ "java/util/ArrayList" "size" "I" (.int (0 : Int32)) ∧ Arv Z h nnb8_2 k8_2 (.object "java/lang/Object") (10 : Int32) [.null, .null, .null, .null, .null, .null, .null, .null, .null, .null] .null ∧ Exa Z h nnb8_2 "[Ljava/lang/Object;"
set_option maxRecDepth 65536 in
set_option maxHeartbeats 40000000 in
theorem rmgrow13 (l : Launch) (Z : State) (a0 : Array Value) (hw : ∀ d ∈ tables_1, d.before a0 Z = true) (ws : List Jvm.Cond) (o0_ : Addr) (o1_ : Addr) (ko1_ : ClassId) (h0 : Heap) (n0 : Nat) (O0 : Old Z n0 h0) (P0 : Exa Z h0 o0_ "java/util/ArrayList") (P1 : Fld Z h0 o0_ "java/util/AbstractList" "modCount" "I" (.int (1 : Int32))) (P2 : Fld Z h0 o0_ "java/util/ArrayList" "elementData" "[Ljava/lang/Object;" (.ref o1_)) (P3 : Fld Z h0 o0_ "java/util/ArrayList" "size" "I" (.int (0 : Int32))) (P4 : Exa Z Z.heap o1_ "[Ljava/lang/Object;") (P5 : Arv Z Z.heap o1_ ko1_ (.object "java/lang/Object") (0 : Int32) [] .null) (P6 : Sta Z Z.heap "java/util/ArrayList" "DEFAULTCAPACITY_EMPTY_ELEMENTDATA" "[Ljava/lang/Object;" (.ref o1_)) (P7 : n0 ≤ o0_) :
    MetFree l (⟨"java/util/ArrayList", "grow", "()[Ljava/lang/Object;"⟩ : MethodName) (head1 (Jvm.Cond.code (⟨"java/util/ArrayList", "grow", "()[Ljava/lang/Object;"⟩ : MethodName) jdk_38_method_7_code 1 (some (.array (.object "java/lang/Object"))) :: ws) ({ frames := 2, cells := 1, slots := 10, locals := 29 } : Room)) (fun a U => a = #[(.ref o0_)] ∧ Z.Warmed39 U.vm ∧ U.heap = h0) (fun _ _ _ _ _ => True) (fun _ U o U' => ∃ v L, o = .returned v ∧ Qgrow13 Z o0_ o1_ ko1_ h0 n0 v U'.heap L ∧ FrameEnd U o U' L ({ frames := 2, cells := 1, slots := 10, locals := 29 } : Room).cells ({ frames := 2, cells := 1, slots := 10, locals := 29 } : Room).slots) := by
  refine MetFree.of_bodySF (plainFor_of_name pn_5) hisR ?_
  intro p e s m args below meth c s₁ Bd hml0 hP hK
  obtain ⟨rfl, hZ, hh⟩ := hP
  have hx := Bd.exec
  have hby := Bd.bytes
  have hml : c.maxLocals = 1 := hml0
  have hown : s.vm.findClass "java/util/ArrayList" = some m.cls := findClass_of_methodNamed Bd.named
  have hnm := (name_of_methodNamed Bd.named Bd.method).1
  have X0 : Stand p l e ({ frames := 2, cells := 1, slots := 10, locals := 29 } : Room) s m #[(.ref o0_)] below meth c s₁ [] 0 0 := Stand.of_body Bd
  have e0 : s₁.heap = h0 := by rw [← hh, Bd.state]; rfl
  have N0 := Fr.nil n0
  obtain ⟨G, pre0, hG⟩ : ∃ G : State → Prop, (∀ t, own_S p e below m s₁ 0 #[lvR o0_] [] t → G t) ∧ (∀ t, G t → Steps p.tables e below (s₁.setTop (entryFrame m #[(.ref o0_)] 1)) t) := ⟨fun t => Steps p.tables e below (s₁.setTop (entryFrame m #[(.ref o0_)] 1)) t, fun t k => castTop (efgrow13 m o0_) k, fun _ k => k⟩
  have K0 : Keep h0 h0 [o0_] := Keep.refl _ _
  obtain ⟨T1, X1, e1, st1⟩ := getF X0 hx hZ hown (host := "") (Or.inl (own_w hw 128 rfl)) Via.refl e0 P3 (g := (mkF m 2 #[lvR o0_] [(.ref o0_), (.ref o0_)])) rfl rfl (hb hby d16_2)
  obtain ⟨cq2, q2, q2'⟩ := P0.cell
  obtain ⟨_, _, ⟨T2, L2, k2, n2⟩, -, X2, ⟨Lc2, hQ2, l2, y2, z2⟩, st2⟩ := X1.privateBack hx (y := (⟨"java/util/ArrayList", "grow", "(I)[Ljava/lang/Object;"⟩ : MethodName)) hown (mvT hZ (own_w hw 140 rfl)) (mvT hZ (own_w hw 141 rfl)) (mvT hZ (own_w hw 143 rfl)) (Cond.privateMethod_at (mvP hZ (own_w hw 142 rfl) (args := #[]))) (mvT hZ (own_w hw 144 rfl)) (by decide) (backOf (W := 0) (rmgrow15 l Z a0 hw [] o0_ o1_ ko1_ h0 n0 O0 P0 P1 P2 P3 P4 P5 P6 P7) hZ (own_w hw 144 rfl) (own_w hw 69 rfl) (by decide) (by decide)) (g := (mkF m 7 #[lvR o0_] [(.int (1 : Int32)), (.ref o0_)])) rfl (by rw [hml]; rfl) (Steps.refl _) (a := o0_) (by rw [e1]; exact q2) q2' (argsL := [(.int (1 : Int32))]) (rest := []) (lenOf pd_8 rfl) rfl (by show 2 * 0 + _ ≤ _; exact Nat.le_of_eq rfl) (hb hby d16_7) (fun _ _ => ⟨rfl, e1, (by decide : 0 + 1 ≤ _), (by decide : 0 + 10 ≤ _)⟩)
  dsimp only [Pt.U, Pt.locs, Pt.cells, Pt.slots] at X2 l2 y2 z2 st2 hQ2
  subst l2 y2 z2
  obtain ⟨h2, e2⟩ : ∃ z, T2.heap = z := ⟨_, rfl⟩
  rw [e2] at hQ2
  obtain ⟨k8_2, nb8_2, rfl, N2q, K2, sznb8_2, g2_0, g2_1, g2_2, g2_3, g2_4, g2_5⟩ := hQ2
  have N3 := Fr.app N0 N2q
  have ge4 : n0 ≤ nb8_2 := Nat.le_trans (Nat.le_trans (Nat.le_of_eq O0.1.symm) O0.2.1) sznb8_2
  have sz5 : h0.size ≤ nb8_2 := Nat.le_trans K0.1 sznb8_2
  have pre6 : ∀ t, own_S p e below m T2 10 #[lvR o0_] [(.ref nb8_2)] t → G t := by
    intro t kt
    refine pre0 t ?_
    show own_S p e below m s₁ 0 #[lvR o0_] [] _
    refine XS.aloadN X0.here hx rfl (hb hby d16_0) rfl rfl ?_
    refine XS.aloadN X0.here hx rfl (hb hby d16_1) rfl rfl ?_
    show own_S p e below m s₁ 2 #[lvR o0_] [(.ref o0_), (.ref o0_)] _
    refine st1 _ ?_
    refine XS.iconst X1.here hx rfl (hb hby d16_5) ?_
    refine XS.iadd X1.here hx rfl (hb hby d16_6) rfl ?_
    show own_S p e below m T1 7 #[lvR o0_] [(.int (1 : Int32)), (.ref o0_)] _
    refine st2.trans ?_
    exact kt
  have f8 : Keep h0 h2 [o0_] := K0.trans K2 (allS (Or.inl (List.mem_of_getElem? (i := 0) rfl)) all0)
  obtain ⟨fs, hr, hrun, hended, hW, hsame⟩ := X2.leave (v := some (.ref nb8_2)) (fun h => by rw [Bd.returns] at h; cases h)
  refine ⟨_, _, hG _ (pre6 _ (retOut X2 hx Bd.returns rfl (Or.inr (Or.inr (Or.inr (Or.inr ⟨rfl, rfl, rfl⟩)))) (hb hby d16_10) hr)), hrun, hended, _, _, rfl, ?_, ⟨_, rfl⟩, hW, hsame.mono (by decide) (by decide)⟩
  show Qgrow13 Z o0_ o1_ ko1_ h0 n0 _ T2.heap _
  rw [e2]
  exact ⟨k8_2, nb8_2, rfl, N3, f8, sz5, g2_0, g2_1, g2_2, g2_3, g2_4, g2_5⟩
theorem pd_9 : parseMethodDescriptor "()[Ljava/lang/Object;" = some ⟨[], some (.array (.object "java/lang/Object"))⟩ := by decide +kernel
theorem d15_10 : decode jdk_38_method_24_code 10 = .ok (.astore_n 2, 1) := by decide +kernel
theorem d15_11 : decode jdk_38_method_24_code 11 = .ok (.aload_n 2, 1) := by decide +kernel
theorem d15_12 : decode jdk_38_method_24_code 12 = .ok (.iload_n 3, 1) := by decide +kernel
theorem d15_13 : decode jdk_38_method_24_code 13 = .ok (.aload_n 1, 1) := by decide +kernel
theorem d15_14 : decode jdk_38_method_24_code 14 = .ok (.aastore, 1) := by decide +kernel
theorem d15_15 : decode jdk_38_method_24_code 15 = .ok (.aload_n 0, 1) := by decide +kernel
theorem d15_16 : decode jdk_38_method_24_code 16 = .ok (.iload_n 3, 1) := by decide +kernel
theorem d15_17 : decode jdk_38_method_24_code 17 = .ok (.iconst 1, 1) := by decide +kernel
theorem d15_18 : decode jdk_38_method_24_code 18 = .ok (.iadd, 1) := by decide +kernel
theorem d15_19 : decode jdk_38_method_24_code 19 = .ok (.putfield 48, 3) := by decide +kernel
theorem d15_22 : decode jdk_38_method_24_code 22 = .ok (.return_, 1) := by decide +kernel
theorem efadd10 (m : MethodId) (o0_ : Addr) (o1_ : Addr) (o2_ : Addr) : entryFrame m #[(.ref o0_), (.ref o1_), (.ref o2_), (.int (0 : Int32))] 4 = mkF m 0 #[lvR o0_, lvR o1_, lvR o2_, lvI (0 : Int32)] [] := by first | (simp [entryFrame, mkF, argsToLocals, Value.category]; done) | rfl
def Qadd10 (Z : State) (o0_ : Addr) (o1_ : Addr) (o2_ : Addr) (d0_ : UInt64) (d1_ : UInt64) (d2_ : UInt64) (d3_ : UInt64) (d4_ : UInt64) (d5_ : UInt64) (ko2_ : ClassId) (h0 : Heap) (n0 : Nat) (v : Option Value) (h : Heap) (L : List Loc) : Prop := ∃ k8_2_3 : ClassId, ∃ nnnb8_2_3 : Addr, v = none ∧ Fr n0 L ∧ Keep h0 h [o0_] ∧ h0.size ≤ nnnb8_2_3 ∧ Exa Z h o0_ "java/util/ArrayList" ∧ Fld Z h o0_ "java/util/AbstractList" "modCount" "I" (.int (1 : Int32)) ∧ Fld Z h o0_ "java/util/ArrayList" "elementData" "[Ljava/lang/Object;" (.ref nnnb8_2_3) ∧ Fld Z h o0_ "java/util/ArrayList" "size" "I" (.int (1 : Int32)) ∧ Arv Z h nnnb8_2_3 k8_2_3 (.object "java/lang/Object") (10 : Int32) [(.ref o1_), .null, .null, .null, .null, .null, .null, .null, .null, .null] .null ∧ Exa Z h nnnb8_2_3 "[Ljava/lang/Object;"
abbrev mn4 : MethodName := ⟨"java/util/ArrayList", "add", "(Ljava/lang/Object;[Ljava/lang/Object;I)V"⟩
set_option maxRecDepth 65536 in
set_option maxHeartbeats 40000000 in
theorem rmadd10 (l : Launch) (Z : State) (a0 : Array Value) (hw : ∀ d ∈ tables_1, d.before a0 Z = true) (ws : List Jvm.Cond) (o0_ : Addr) (o1_ : Addr) (o2_ : Addr) (d0_ : UInt64) (d1_ : UInt64) (d2_ : UInt64) (d3_ : UInt64) (d4_ : UInt64) (d5_ : UInt64) (ko2_ : ClassId) (h0 : Heap) (n0 : Nat) (O0 : Old Z n0 h0) (P0 : Exa Z h0 o0_ "java/util/ArrayList") (P1 : Fld Z h0 o0_ "java/util/AbstractList" "modCount" "I" (.int (1 : Int32))) (P2 : Fld Z h0 o0_ "java/util/ArrayList" "elementData" "[Ljava/lang/Object;" (.ref o2_)) (P3 : Fld Z h0 o0_ "java/util/ArrayList" "size" "I" (.int (0 : Int32))) (P4 : Exa Z h0 o1_ cn2) (P5 : Fld Z h0 o1_ cn2 "n" "I" (.int (1 : Int32))) (P6 : Fld Z h0 o1_ cn2 "r" "D" (.double d0_)) (P7 : Fld Z h0 o1_ cn2 "rHat" "D" (.double d1_)) (P8 : Fld Z h0 o1_ cn2 "p" "D" (.double d2_)) (P9 : Fld Z h0 o1_ cn2 "accuracy" "D" (.double d3_)) (P10 : Fld Z h0 o1_ cn2 "share" "D" (.double d4_)) (P11 : Fld Z h0 o1_ cn2 "cp" "D" (.double d5_)) (P12 : Exa Z Z.heap o2_ "[Ljava/lang/Object;") (P13 : Arv Z Z.heap o2_ ko2_ (.object "java/lang/Object") (0 : Int32) [] .null) (P14 : Sta Z Z.heap "java/util/ArrayList" "DEFAULTCAPACITY_EMPTY_ELEMENTDATA" "[Ljava/lang/Object;" (.ref o2_)) (P15 : n0 ≤ o0_) :
    MetFree l mn4 (head1 (Jvm.Cond.code mn4 jdk_38_method_24_code 4 none :: ws) ({ frames := 3, cells := 1, slots := 10, locals := 41 } : Room)) (fun a U => a = #[(.ref o0_), (.ref o1_), (.ref o2_), (.int (0 : Int32))] ∧ Z.Warmed39 U.vm ∧ U.heap = h0) (fun _ _ _ _ _ => True) (fun _ U o U' => ∃ v L, o = .returned v ∧ Qadd10 Z o0_ o1_ o2_ d0_ d1_ d2_ d3_ d4_ d5_ ko2_ h0 n0 v U'.heap L ∧ FrameEnd U o U' L ({ frames := 3, cells := 1, slots := 10, locals := 41 } : Room).cells ({ frames := 3, cells := 1, slots := 10, locals := 41 } : Room).slots) := by
  refine MetFree.of_bodySF (plainFor_of_name pn_5) hisR ?_
  intro p e s m args below meth c s₁ Bd hml0 hP hK
  obtain ⟨rfl, hZ, hh⟩ := hP
  have hx := Bd.exec
  have hby := Bd.bytes
  have hml : c.maxLocals = 4 := hml0
  have hown : s.vm.findClass "java/util/ArrayList" = some m.cls := findClass_of_methodNamed Bd.named
  have hnm := (name_of_methodNamed Bd.named Bd.method).1
  have X0 : Stand p l e ({ frames := 3, cells := 1, slots := 10, locals := 41 } : Room) s m #[(.ref o0_), (.ref o1_), (.ref o2_), (.int (0 : Int32))] below meth c s₁ [] 0 0 := Stand.of_body Bd
  have e0 : s₁.heap = h0 := by rw [← hh, Bd.state]; rfl
  have N0 := Fr.nil n0
  obtain ⟨G, pre0, hG⟩ : ∃ G : State → Prop, (∀ t, own_S p e below m s₁ 0 #[lvR o0_, lvR o1_, lvR o2_, lvI (0 : Int32)] [] t → G t) ∧ (∀ t, G t → Steps p.tables e below (s₁.setTop (entryFrame m #[(.ref o0_), (.ref o1_), (.ref o2_), (.int (0 : Int32))] 4)) t) := ⟨fun t => Steps p.tables e below (s₁.setTop (entryFrame m #[(.ref o0_), (.ref o1_), (.ref o2_), (.int (0 : Int32))] 4)) t, fun t k => castTop (efadd10 m o0_ o1_ o2_) k, fun _ k => k⟩
  have K0 : Keep h0 h0 [o0_] := Keep.refl _ _
  have f2 : Arv Z h0 o2_ ko2_ (.object "java/lang/Object") (0 : Int32) [] .null := P13.ext O0.2
  obtain ⟨c1, r1, q1, s1, z1, y1, G1⟩ := id f2
  obtain ⟨cq3, q3, q3'⟩ := P0.cell
  obtain ⟨_, _, ⟨T3, L3, k3, n3⟩, -, X3, ⟨Lc3, hQ3, l3, y3, z3⟩, st3⟩ := X0.privateBack hx (y := (⟨"java/util/ArrayList", "grow", "()[Ljava/lang/Object;"⟩ : MethodName)) hown (mvT hZ (own_w hw 135 rfl)) (mvT hZ (own_w hw 136 rfl)) (mvT hZ (own_w hw 138 rfl)) (Cond.privateMethod_at (mvP hZ (own_w hw 137 rfl) (args := #[]))) (mvT hZ (own_w hw 139 rfl)) (by decide) (backOf (W := 0) (rmgrow13 l Z a0 hw [] o0_ o2_ ko2_ h0 n0 O0 P0 P1 P2 P3 P12 P13 P14 P15) hZ (own_w hw 139 rfl) (own_w hw 69 rfl) (by decide) (by decide)) (g := (mkF m 7 #[lvR o0_, lvR o1_, lvR o2_, lvI (0 : Int32)] [(.ref o0_)])) rfl (by rw [hml]; rfl) (Steps.refl _) (a := o0_) (by rw [e0]; exact q3) q3' (argsL := []) (rest := []) (lenOf pd_9 rfl) rfl (by show 2 * 0 + _ ≤ _; exact Nat.le_of_eq rfl) (hb hby d15_7) (fun _ _ => ⟨rfl, e0, (by decide : 0 + 1 ≤ _), (by decide : 0 + 10 ≤ _)⟩)
  dsimp only [Pt.U, Pt.locs, Pt.cells, Pt.slots] at X3 l3 y3 z3 st3 hQ3
  subst l3 y3 z3
  obtain ⟨h3, e3⟩ : ∃ z, T3.heap = z := ⟨_, rfl⟩
  rw [e3] at hQ3
  obtain ⟨k8_2_3, nnb8_2_3, rfl, N3q, K3, sznnb8_2_3, g3_0, g3_1, g3_2, g3_3, g3_4, g3_5⟩ := hQ3
  have N4 := Fr.app N0 N3q
  have ge5 : n0 ≤ nnb8_2_3 := Nat.le_trans (Nat.le_trans (Nat.le_of_eq O0.1.symm) O0.2.1) sznnb8_2_3
  have sz6 : h0.size ≤ nnb8_2_3 := Nat.le_trans K0.1 sznnb8_2_3
  obtain ⟨c7, r7, q7, s7, z7, y7, G7⟩ := id g3_4
  have hin7 : ¬ ((0 : Int32) < 0 ∨ c7.slots.size ≤ ((0 : Int32)).toNatClampNeg) := inb_of s7 ⟨by decide, by decide⟩
  have f8 : Exa Z h3 o1_ cn2 := P4.keep K3
  obtain ⟨T7, h7, X7, e7, W7, st7⟩ := stR X3 hx hZ e3 r7 (j := (0 : Int32)) hin7 rfl (Sto.of r7 (own_ovr (own_w hw 150 rfl) g3_5 r7.1 (by decide)) (Ins.of_exa f8 (own_w hw 151 rfl))) (g := (mkF m 14 #[lvR o0_, lvR o1_, lvR nnb8_2_3, lvI (0 : Int32)] [(.ref o1_), (.int (0 : Int32)), (.ref nnb8_2_3)])) rfl rfl (hb hby d15_14)
  have N9 := Fr.snoc X7 N4 ge5
  have f10 : Arv Z h7 nnb8_2_3 k8_2_3 (.object "java/lang/Object") (10 : Int32) [(.ref o1_), .null, .null, .null, .null, .null, .null, .null, .null, .null] .null := Arv.set r7 q7 s7 z7 y7 G7 rfl W7 0 rfl (Nat.le_of_ble_eq_true rfl)
  have ne12 : o0_ ≠ nnb8_2_3 := Nat.ne_of_lt (Nat.lt_of_lt_of_le P0.lt sznnb8_2_3)
  have f11 : Fld Z h7 o0_ "java/util/ArrayList" "size" "I" (.int (0 : Int32)) := g3_3.other W7 (Or.inl ne12)
  have f13 : Exa Z h7 o0_ "java/util/ArrayList" := g3_0.wr W7
  obtain ⟨T14, h14, X14, e14, W14, st14⟩ := putF X7 hx hZ hown (host := "") (Or.inl (own_w hw 128 rfl)) Via.refl e7 f11 f13 (Or.inl (own_w hw 129 rfl)) (own_w hw 68 rfl) (ty := .int) (by decide) rfl rfl (g := (mkF m 19 #[lvR o0_, lvR o1_, lvR nnb8_2_3, lvI (0 : Int32)] [(.int (1 : Int32)), (.ref o0_)])) rfl rfl (hb hby d15_19)
  have N15 := Fr.snoc X14 N9 P15
  have f16 : Fld Z h14 o0_ "java/util/ArrayList" "size" "I" (.int (1 : Int32)) := f11.same W14
  have pre17 : ∀ t, own_S p e below m T14 22 #[lvR o0_, lvR o1_, lvR nnb8_2_3, lvI (0 : Int32)] [] t → G t := by
    intro t kt
    refine pre0 t ?_
    show own_S p e below m s₁ 0 #[lvR o0_, lvR o1_, lvR o2_, lvI (0 : Int32)] [] _
    refine XS.iloadN X0.here hx rfl (hb hby d15_0) rfl ?_
    refine XS.aloadN X0.here hx rfl (hb hby d15_1) rfl rfl ?_
    show own_S p e below m s₁ 2 #[lvR o0_, lvR o1_, lvR o2_, lvI (0 : Int32)] [(.ref o2_), (.int (0 : Int32))] _
    refine X0.arraylength hx (by rw [e0]; exact r1.1) (State.isArrayOf_alike hZ.alike r1.2.1) (g := (mkF m 2 #[lvR o0_, lvR o1_, lvR o2_, lvI (0 : Int32)] [(.ref o2_), (.int (0 : Int32))])) rfl rfl (hb hby d15_2) _ ?_
    rw [len_of s1 z1]
    show own_S p e below m s₁ 3 #[lvR o0_, lvR o1_, lvR o2_, lvI (0 : Int32)] [(.int (0 : Int32)), (.int (0 : Int32))] _
    refine XS.icmpNo X0.here hx rfl (hb hby d15_3) rfl (teq (by decide : (0 : Int32) = (0 : Int32))).2 ?_
    refine XS.aloadN X0.here hx rfl (hb hby d15_6) rfl rfl ?_
    show own_S p e below m s₁ 7 #[lvR o0_, lvR o1_, lvR o2_, lvI (0 : Int32)] [(.ref o0_)] _
    refine st3.trans ?_
    refine XS.astoreN X3.here hx rfl (hb hby d15_10) rfl rfl (l' := #[lvR o0_, lvR o1_, lvR nnb8_2_3, lvI (0 : Int32)]) rfl ?_
    refine XS.aloadN X3.here hx rfl (hb hby d15_11) rfl rfl ?_
    refine XS.iloadN X3.here hx rfl (hb hby d15_12) rfl ?_
    refine XS.aloadN X3.here hx rfl (hb hby d15_13) rfl rfl ?_
    show own_S p e below m T3 14 #[lvR o0_, lvR o1_, lvR nnb8_2_3, lvI (0 : Int32)] [(.ref o1_), (.int (0 : Int32)), (.ref nnb8_2_3)] _
    refine st7 _ ?_
    refine XS.aloadN X7.here hx rfl (hb hby d15_15) rfl rfl ?_
    refine XS.iloadN X7.here hx rfl (hb hby d15_16) rfl ?_
    refine XS.iconst X7.here hx rfl (hb hby d15_17) ?_
    refine XS.iadd X7.here hx rfl (hb hby d15_18) rfl ?_
    show own_S p e below m T7 19 #[lvR o0_, lvR o1_, lvR nnb8_2_3, lvI (0 : Int32)] [(.int (1 : Int32)), (.ref o0_)] _
    refine st14 _ ?_
    exact kt
  have f19 : Keep h0 h3 [o0_] := K0.trans K3 (allS (Or.inl (List.mem_of_getElem? (i := 0) rfl)) all0)
  have f20 : Keep h0 h7 [o0_] := f19.wr W7 (Or.inr sz6)
  have f21 : Keep h0 h14 [o0_] := f20.wr W14 (Or.inl (List.mem_of_getElem? (i := 0) rfl))
  have f22 : Exa Z h14 o0_ "java/util/ArrayList" := f13.wr W14
  have f23 : Fld Z h7 o0_ "java/util/AbstractList" "modCount" "I" (.int (1 : Int32)) := g3_1.other W7 (Or.inl ne12)
  have f24 : Fld Z h14 o0_ "java/util/AbstractList" "modCount" "I" (.int (1 : Int32)) := f23.other W14 (Or.inr (slot_ne (Or.inl (own_w hw 87 rfl)) (Or.inl (own_w hw 129 rfl)) (by decide) (t := .int) (t' := .int) (by decide) (by decide)))
  have f25 : Fld Z h7 o0_ "java/util/ArrayList" "elementData" "[Ljava/lang/Object;" (.ref nnb8_2_3) := g3_2.other W7 (Or.inl ne12)
  have f26 : Fld Z h14 o0_ "java/util/ArrayList" "elementData" "[Ljava/lang/Object;" (.ref nnb8_2_3) := f25.other W14 (Or.inr (slot_ne (Or.inl (own_w hw 90 rfl)) (Or.inl (own_w hw 129 rfl)) (by decide) (t := (.array (.object "java/lang/Object"))) (t' := .int) (by decide) (by decide)))
  have f27 : Arv Z h14 nnb8_2_3 k8_2_3 (.object "java/lang/Object") (10 : Int32) [(.ref o1_), .null, .null, .null, .null, .null, .null, .null, .null, .null] .null := f10.other W14 (Ne.symm ne12)
  have f28 : Exa Z h7 nnb8_2_3 "[Ljava/lang/Object;" := g3_5.wr W7
  have f29 : Exa Z h14 nnb8_2_3 "[Ljava/lang/Object;" := f28.wr W14
  obtain ⟨fs, hr, hrun, hended, hW, hsame⟩ := X14.leave (v := none) (fun _ => rfl)
  refine ⟨_, _, hG _ (pre17 _ (X14.returnOut hx Bd.returns (hb hby d15_22) hr)), hrun, hended, _, _, rfl, ?_, ⟨_, rfl⟩, hW, hsame.mono (by decide) (by decide)⟩
  show Qadd10 Z o0_ o1_ o2_ d0_ d1_ d2_ d3_ d4_ d5_ ko2_ h0 n0 _ T14.heap _
  rw [e14]
  exact ⟨k8_2_3, nnb8_2_3, rfl, N15, f21, sz6, f22, f24, f26, f16, f27, f29⟩
theorem pd_10 : parseMethodDescriptor "(Ljava/lang/Object;[Ljava/lang/Object;I)V" = some ⟨[(.object "java/lang/Object"), (.array (.object "java/lang/Object")), .int], none⟩ := by decide +kernel
theorem d14_23 : decode jdk_38_method_25_code 23 = .ok (.iconst 1, 1) := by decide +kernel
theorem d14_24 : decode jdk_38_method_25_code 24 = .ok (.ireturn, 1) := by decide +kernel
theorem efadd6 (m : MethodId) (o0_ : Addr) (o1_ : Addr) : entryFrame m #[(.ref o0_), (.ref o1_)] 2 = mkF m 0 #[lvR o0_, lvR o1_] [] := by first | (simp [entryFrame, mkF, argsToLocals, Value.category]; done) | rfl
def Qadd6 (Z : State) (o0_ : Addr) (o1_ : Addr) (o2_ : Addr) (d0_ : UInt64) (d1_ : UInt64) (d2_ : UInt64) (d3_ : UInt64) (d4_ : UInt64) (d5_ : UInt64) (ko2_ : ClassId) (h0 : Heap) (n0 : Nat) (v : Option Value) (h : Heap) (L : List Loc) : Prop := ∃ k8_2_3_9 : ClassId, ∃ nnnnb8_2_3_9 : Addr, v = some (.int (1 : Int32)) ∧ Fr n0 L ∧ Keep h0 h [o0_] ∧ h0.size ≤ nnnnb8_2_3_9 ∧ Exa Z h o0_ "java/util/ArrayList" ∧ Fld Z h o0_ "java/util/AbstractList" "modCount" "I" (.int (1 : Int32)) ∧ Fld Z h o0_ "java/util/ArrayList" "elementData" "[Ljava/lang/Object;" (.ref nnnnb8_2_3_9) ∧ Fld Z h o0_ "java/util/ArrayList" "size" "I" (.int (1 : Int32)) ∧ Arv Z h nnnnb8_2_3_9 k8_2_3_9 (.object "java/lang/Object") (10 : Int32) [(.ref o1_), .null, .null, .null, .null, .null, .null, .null, .null, .null] .null ∧ Exa Z h nnnnb8_2_3_9 "[Ljava/lang/Object;"
set_option maxRecDepth 65536 in
set_option maxHeartbeats 40000000 in
theorem rmadd6 (l : Launch) (Z : State) (a0 : Array Value) (hw : ∀ d ∈ tables_1, d.before a0 Z = true) (ws : List Jvm.Cond) (o0_ : Addr) (o1_ : Addr) (o2_ : Addr) (d0_ : UInt64) (d1_ : UInt64) (d2_ : UInt64) (d3_ : UInt64) (d4_ : UInt64) (d5_ : UInt64) (ko2_ : ClassId) (h0 : Heap) (n0 : Nat) (O0 : Old Z n0 h0) (P0 : Exa Z h0 o0_ "java/util/ArrayList") (P1 : Fld Z h0 o0_ "java/util/AbstractList" "modCount" "I" (.int (0 : Int32))) (P2 : Fld Z h0 o0_ "java/util/ArrayList" "elementData" "[Ljava/lang/Object;" (.ref o2_)) (P3 : Fld Z h0 o0_ "java/util/ArrayList" "size" "I" (.int (0 : Int32))) (P4 : Exa Z h0 o1_ cn2) (P5 : Fld Z h0 o1_ cn2 "n" "I" (.int (1 : Int32))) (P6 : Fld Z h0 o1_ cn2 "r" "D" (.double d0_)) (P7 : Fld Z h0 o1_ cn2 "rHat" "D" (.double d1_)) (P8 : Fld Z h0 o1_ cn2 "p" "D" (.double d2_)) (P9 : Fld Z h0 o1_ cn2 "accuracy" "D" (.double d3_)) (P10 : Fld Z h0 o1_ cn2 "share" "D" (.double d4_)) (P11 : Fld Z h0 o1_ cn2 "cp" "D" (.double d5_)) (P12 : Exa Z Z.heap o2_ "[Ljava/lang/Object;") (P13 : Arv Z Z.heap o2_ ko2_ (.object "java/lang/Object") (0 : Int32) [] .null) (P14 : n0 ≤ o0_) (P15 : Sta Z Z.heap "java/util/ArrayList" "DEFAULTCAPACITY_EMPTY_ELEMENTDATA" "[Ljava/lang/Object;" (.ref o2_)) (P16 : o1_ ≠ o0_) :
    MetFree l (⟨"java/util/ArrayList", "add", "(Ljava/lang/Object;)Z"⟩ : MethodName) (head1 (Jvm.Cond.code (⟨"java/util/ArrayList", "add", "(Ljava/lang/Object;)Z"⟩ : MethodName) jdk_38_method_25_code 2 (some .boolean) :: ws) ({ frames := 4, cells := 1, slots := 10, locals := 56 } : Room)) (fun a U => a = #[(.ref o0_), (.ref o1_)] ∧ Z.Warmed39 U.vm ∧ U.heap = h0) (fun _ _ _ _ _ => True) (fun _ U o U' => ∃ v L, o = .returned v ∧ Qadd6 Z o0_ o1_ o2_ d0_ d1_ d2_ d3_ d4_ d5_ ko2_ h0 n0 v U'.heap L ∧ FrameEnd U o U' L ({ frames := 4, cells := 1, slots := 10, locals := 56 } : Room).cells ({ frames := 4, cells := 1, slots := 10, locals := 56 } : Room).slots) := by
  refine MetFree.of_bodySF (plainFor_of_name pn_5) hisR ?_
  intro p e s m args below meth c s₁ Bd hml0 hP hK
  obtain ⟨rfl, hZ, hh⟩ := hP
  have hx := Bd.exec
  have hby := Bd.bytes
  have hml : c.maxLocals = 2 := hml0
  have hown : s.vm.findClass "java/util/ArrayList" = some m.cls := findClass_of_methodNamed Bd.named
  have hnm := (name_of_methodNamed Bd.named Bd.method).1
  have X0 : Stand p l e ({ frames := 4, cells := 1, slots := 10, locals := 56 } : Room) s m #[(.ref o0_), (.ref o1_)] below meth c s₁ [] 0 0 := Stand.of_body Bd
  have e0 : s₁.heap = h0 := by rw [← hh, Bd.state]; rfl
  have N0 := Fr.nil n0
  obtain ⟨G, pre0, hG⟩ : ∃ G : State → Prop, (∀ t, own_S p e below m s₁ 0 #[lvR o0_, lvR o1_] [] t → G t) ∧ (∀ t, G t → Steps p.tables e below (s₁.setTop (entryFrame m #[(.ref o0_), (.ref o1_)] 2)) t) := ⟨fun t => Steps p.tables e below (s₁.setTop (entryFrame m #[(.ref o0_), (.ref o1_)] 2)) t, fun t k => castTop (efadd6 m o0_ o1_) k, fun _ k => k⟩
  have K0 : Keep h0 h0 [o0_] := Keep.refl _ _
  obtain ⟨T1, X1, e1, st1⟩ := getF X0 hx hZ hown (host := "") (Or.inl (own_w hw 126 rfl)) (Via.of (own_w hw 127 rfl)) e0 P1 (g := (mkF m 2 #[lvR o0_, lvR o1_] [(.ref o0_), (.ref o0_)])) rfl rfl (hb hby d14_2)
  obtain ⟨T2, h2, X2, e2, W2, st2⟩ := putF X1 hx hZ hown (host := "") (Or.inl (own_w hw 126 rfl)) (Via.of (own_w hw 127 rfl)) e1 P1 P0 (Or.inl (own_w hw 87 rfl)) (own_w hw 68 rfl) (ty := .int) (by decide) rfl rfl (g := (mkF m 7 #[lvR o0_, lvR o1_] [(.int (1 : Int32)), (.ref o0_)])) rfl rfl (hb hby d14_7)
  have N3 := Fr.snoc X2 N0 P14
  have f4 : Fld Z h2 o0_ "java/util/AbstractList" "modCount" "I" (.int (1 : Int32)) := P1.same W2
  have f5 : Fld Z h2 o0_ "java/util/ArrayList" "elementData" "[Ljava/lang/Object;" (.ref o2_) := P2.other W2 (Or.inr (slot_ne (Or.inl (own_w hw 90 rfl)) (Or.inl (own_w hw 87 rfl)) (by decide) (t := (.array (.object "java/lang/Object"))) (t' := .int) (by decide) (by decide)))
  obtain ⟨T6, X6, e6, st6⟩ := getF X2 hx hZ hown (host := "") (Or.inl (own_w hw 89 rfl)) Via.refl e2 f5 (g := (mkF m 13 #[lvR o0_, lvR o1_] [(.ref o0_), (.ref o1_), (.ref o0_)])) rfl rfl (hb hby d14_13)
  have f7 : Fld Z h2 o0_ "java/util/ArrayList" "size" "I" (.int (0 : Int32)) := P3.other W2 (Or.inr (slot_ne (Or.inl (own_w hw 129 rfl)) (Or.inl (own_w hw 87 rfl)) (by decide) (t := .int) (t' := .int) (by decide) (by decide)))
  obtain ⟨T8, X8, e8, st8⟩ := getF X6 hx hZ hown (host := "") (Or.inl (own_w hw 128 rfl)) Via.refl e6 f7 (g := (mkF m 17 #[lvR o0_, lvR o1_] [(.ref o0_), (.ref o2_), (.ref o1_), (.ref o0_)])) rfl rfl (hb hby d14_17)
  have f10 : Exa Z h2 o0_ "java/util/ArrayList" := P0.wr W2
  have f11 : Exa Z h2 o1_ cn2 := P4.wr W2
  have f12 : Fld Z h2 o1_ cn2 "n" "I" (.int (1 : Int32)) := P5.other W2 (Or.inl P16)
  have f13 : Fld Z h2 o1_ cn2 "r" "D" (.double d0_) := P6.other W2 (Or.inl P16)
  have f14 : Fld Z h2 o1_ cn2 "rHat" "D" (.double d1_) := P7.other W2 (Or.inl P16)
  have f15 : Fld Z h2 o1_ cn2 "p" "D" (.double d2_) := P8.other W2 (Or.inl P16)
  have f16 : Fld Z h2 o1_ cn2 "accuracy" "D" (.double d3_) := P9.other W2 (Or.inl P16)
  have f17 : Fld Z h2 o1_ cn2 "share" "D" (.double d4_) := P10.other W2 (Or.inl P16)
  have f18 : Fld Z h2 o1_ cn2 "cp" "D" (.double d5_) := P11.other W2 (Or.inl P16)
  have f19 : Old Z n0 h2 := O0.wr W2 P14
  obtain ⟨cq9, q9, q9'⟩ := f10.cell
  obtain ⟨_, _, ⟨T9, L9, k9, n9⟩, -, X9, ⟨Lc9, hQ9, l9, y9, z9⟩, st9⟩ := X8.privateBack hx (y := mn4) hown (mvT hZ (own_w hw 130 rfl)) (mvT hZ (own_w hw 131 rfl)) (mvT hZ (own_w hw 133 rfl)) (Cond.privateMethod_at (mvP hZ (own_w hw 132 rfl) (args := #[]))) (mvT hZ (own_w hw 134 rfl)) (by decide) (backOf (W := 0) (rmadd10 l Z a0 hw [] o0_ o1_ o2_ d0_ d1_ d2_ d3_ d4_ d5_ ko2_ h2 n0 f19 f10 f4 f5 f7 f11 f12 f13 f14 f15 f16 f17 f18 P12 P13 P15 P14) hZ (own_w hw 134 rfl) (own_w hw 69 rfl) (by decide) (by decide)) (g := (mkF m 20 #[lvR o0_, lvR o1_] [(.int (0 : Int32)), (.ref o2_), (.ref o1_), (.ref o0_)])) rfl (by rw [hml]; rfl) (Steps.refl _) (a := o0_) (by rw [e8]; exact q9) q9' (argsL := [(.ref o1_), (.ref o2_), (.int (0 : Int32))]) (rest := []) (lenOf pd_10 rfl) rfl (by show 2 * 0 + _ ≤ _; exact Nat.le_of_eq rfl) (hb hby d14_20) (fun _ _ => ⟨rfl, e8, (by decide : 0 + 1 ≤ _), (by decide : 0 + 10 ≤ _)⟩)
  dsimp only [Pt.U, Pt.locs, Pt.cells, Pt.slots] at X9 l9 y9 z9 st9 hQ9
  subst l9 y9 z9
  obtain ⟨h9, e9⟩ : ∃ z, T9.heap = z := ⟨_, rfl⟩
  rw [e9] at hQ9
  obtain ⟨k8_2_3_9, nnnb8_2_3_9, rfl, N9q, K9, sznnnb8_2_3_9, g9_0, g9_1, g9_2, g9_3, g9_4, g9_5⟩ := hQ9
  have N20 := Fr.app N3 N9q
  have ge21 : n0 ≤ nnnb8_2_3_9 := Nat.le_trans (Nat.le_trans (Nat.le_of_eq f19.1.symm) f19.2.1) sznnnb8_2_3_9
  have f22 : Keep h0 h2 [o0_] := K0.wr W2 (Or.inl (List.mem_of_getElem? (i := 0) rfl))
  have sz23 : h0.size ≤ nnnb8_2_3_9 := Nat.le_trans f22.1 sznnnb8_2_3_9
  have pre24 : ∀ t, own_S p e below m T9 24 #[lvR o0_, lvR o1_] [(.int (1 : Int32))] t → G t := by
    intro t kt
    refine pre0 t ?_
    show own_S p e below m s₁ 0 #[lvR o0_, lvR o1_] [] _
    refine XS.aloadN X0.here hx rfl (hb hby d14_0) rfl rfl ?_
    refine XS.dup X0.here hx rfl (hb hby d14_1) rfl rfl ?_
    show own_S p e below m s₁ 2 #[lvR o0_, lvR o1_] [(.ref o0_), (.ref o0_)] _
    refine st1 _ ?_
    refine XS.iconst X1.here hx rfl (hb hby d14_5) ?_
    refine XS.iadd X1.here hx rfl (hb hby d14_6) rfl ?_
    show own_S p e below m T1 7 #[lvR o0_, lvR o1_] [(.int (1 : Int32)), (.ref o0_)] _
    refine st2 _ ?_
    refine XS.aloadN X2.here hx rfl (hb hby d14_10) rfl rfl ?_
    refine XS.aloadN X2.here hx rfl (hb hby d14_11) rfl rfl ?_
    refine XS.aloadN X2.here hx rfl (hb hby d14_12) rfl rfl ?_
    show own_S p e below m T2 13 #[lvR o0_, lvR o1_] [(.ref o0_), (.ref o1_), (.ref o0_)] _
    refine st6 _ ?_
    refine XS.aloadN X6.here hx rfl (hb hby d14_16) rfl rfl ?_
    show own_S p e below m T6 17 #[lvR o0_, lvR o1_] [(.ref o0_), (.ref o2_), (.ref o1_), (.ref o0_)] _
    refine st8 _ ?_
    show own_S p e below m T8 20 #[lvR o0_, lvR o1_] [(.int (0 : Int32)), (.ref o2_), (.ref o1_), (.ref o0_)] _
    refine st9.trans ?_
    refine XS.iconst X9.here hx rfl (hb hby d14_23) ?_
    exact kt
  have f26 : Keep h0 h9 [o0_] := f22.trans K9 (allS (Or.inl (List.mem_of_getElem? (i := 0) rfl)) all0)
  obtain ⟨fs, hr, hrun, hended, hW, hsame⟩ := X9.leave (v := some (.int (1 : Int32))) (fun h => by rw [Bd.returns] at h; cases h)
  refine ⟨_, _, hG _ (pre24 _ (retN X9 hx (t := .boolean) Bd.returns (by simp) (hb hby d14_24) hr)), hrun, hended, _, _, rfl, ?_, ⟨_, rfl⟩, hW, hsame.mono (by decide) (by decide)⟩
  show Qadd6 Z o0_ o1_ o2_ d0_ d1_ d2_ d3_ d4_ d5_ ko2_ h0 n0 _ T9.heap _
  rw [e9]
  exact ⟨k8_2_3_9, nnnb8_2_3_9, rfl, N20, f26, sz23, g9_0, g9_1, g9_2, g9_3, g9_4, g9_5⟩
theorem pd_11 : parseMethodDescriptor "(Ljava/lang/Object;)Z" = some ⟨[(.object "java/lang/Object")], some .boolean⟩ := by decide +kernel
theorem d8_127 : decode prog_41_method_5_code 127 = .ok (.pop, 1) := by decide +kernel
theorem d8_128 : decode prog_41_method_5_code 128 = .ok (.iinc 2 1, 3) := by decide +kernel
theorem d8_131 : decode prog_41_method_5_code 131 = .ok (.goto (-104), 3) := by decide +kernel
theorem efinit17 (m : MethodId) (o0_ : Addr) (d0_ : UInt64) (d1_ : UInt64) (d2_ : UInt64) (d3_ : UInt64) (d4_ : UInt64) (d5_ : UInt64) : entryFrame m #[(.ref o0_), (.int (2 : Int32)), (.double d0_), (.double d1_), (.double d2_), (.double d3_), (.double d4_), (.double d5_)] 14 = mkF m 0 #[lvR o0_, lvI (2 : Int32), lvD d0_, .second, lvD d1_, .second, lvD d2_, .second, lvD d3_, .second, lvD d4_, .second, lvD d5_, .second] [] := by first | (simp [entryFrame, mkF, argsToLocals, Value.category]; done) | rfl
def Qinit17 (Z : State) (o0_ : Addr) (d0_ : UInt64) (d1_ : UInt64) (d2_ : UInt64) (d3_ : UInt64) (d4_ : UInt64) (d5_ : UInt64) (h0 : Heap) (n0 : Nat) (v : Option Value) (h : Heap) (L : List Loc) : Prop := v = none ∧ Fr n0 L ∧ Keep h0 h [o0_] ∧ Exa Z h o0_ cn2 ∧ Fld Z h o0_ cn2 "n" "I" (.int (2 : Int32)) ∧ Fld Z h o0_ cn2 "r" "D" (.double d0_) ∧ Fld Z h o0_ cn2 "rHat" "D" (.double d1_) ∧ Fld Z h o0_ cn2 "p" "D" (.double d2_) ∧ Fld Z h o0_ cn2 "accuracy" "D" (.double d3_) ∧ Fld Z h o0_ cn2 "share" "D" (.double d4_) ∧ Fld Z h o0_ cn2 "cp" "D" (.double d5_)
set_option maxRecDepth 65536 in
set_option maxHeartbeats 40000000 in
theorem rminit17 (l : Launch) (Z : State) (a0 : Array Value) (hw : ∀ d ∈ tables_1, d.before a0 Z = true) (ws : List Jvm.Cond) (o0_ : Addr) (d0_ : UInt64) (d1_ : UInt64) (d2_ : UInt64) (d3_ : UInt64) (d4_ : UInt64) (d5_ : UInt64) (h0 : Heap) (n0 : Nat) (O0 : Old Z n0 h0) (P0 : Exa Z h0 o0_ cn2) (P1 : Fld Z h0 o0_ cn2 "n" "I" (.int (0 : Int32))) (P2 : Fld Z h0 o0_ cn2 "r" "D" (.double (0 : UInt64))) (P3 : Fld Z h0 o0_ cn2 "rHat" "D" (.double (0 : UInt64))) (P4 : Fld Z h0 o0_ cn2 "p" "D" (.double (0 : UInt64))) (P5 : Fld Z h0 o0_ cn2 "accuracy" "D" (.double (0 : UInt64))) (P6 : Fld Z h0 o0_ cn2 "share" "D" (.double (0 : UInt64))) (P7 : Fld Z h0 o0_ cn2 "cp" "D" (.double (0 : UInt64))) (P8 : n0 ≤ o0_) :
    MetFree l mn3 (head1 (Jvm.Cond.code mn3 prog_42_method_1_code 14 none :: ws) ({ frames := 2, cells := 0, slots := 0, locals := 24 } : Room)) (fun a U => a = #[(.ref o0_), (.int (2 : Int32)), (.double d0_), (.double d1_), (.double d2_), (.double d3_), (.double d4_), (.double d5_)] ∧ Z.Warmed39 U.vm ∧ U.heap = h0) (fun _ _ _ _ _ => True) (fun _ U o U' => ∃ v L, o = .returned v ∧ Qinit17 Z o0_ d0_ d1_ d2_ d3_ d4_ d5_ h0 n0 v U'.heap L ∧ FrameEnd U o U' L ({ frames := 2, cells := 0, slots := 0, locals := 24 } : Room).cells ({ frames := 2, cells := 0, slots := 0, locals := 24 } : Room).slots) := by
  refine MetFree.of_bodySF (plainFor_of_name pn_7) hisR ?_
  intro p e s m args below meth c s₁ Bd hml0 hP hK
  obtain ⟨rfl, hZ, hh⟩ := hP
  have hx := Bd.exec
  have hby := Bd.bytes
  have hml : c.maxLocals = 14 := hml0
  have hown : s.vm.findClass "com/example/shortlist/shortlist/SelectionMeasures$Row" = some m.cls := findClass_of_methodNamed Bd.named
  have hnm := (name_of_methodNamed Bd.named Bd.method).1
  have X0 : Stand p l e ({ frames := 2, cells := 0, slots := 0, locals := 24 } : Room) s m #[(.ref o0_), (.int (2 : Int32)), (.double d0_), (.double d1_), (.double d2_), (.double d3_), (.double d4_), (.double d5_)] below meth c s₁ [] 0 0 := Stand.of_body Bd
  have e0 : s₁.heap = h0 := by rw [← hh, Bd.state]; rfl
  have N0 := Fr.nil n0
  obtain ⟨G, pre0, hG⟩ : ∃ G : State → Prop, (∀ t, own_S p e below m s₁ 0 #[lvR o0_, lvI (2 : Int32), lvD d0_, .second, lvD d1_, .second, lvD d2_, .second, lvD d3_, .second, lvD d4_, .second, lvD d5_, .second] [] t → G t) ∧ (∀ t, G t → Steps p.tables e below (s₁.setTop (entryFrame m #[(.ref o0_), (.int (2 : Int32)), (.double d0_), (.double d1_), (.double d2_), (.double d3_), (.double d4_), (.double d5_)] 14)) t) := ⟨fun t => Steps p.tables e below (s₁.setTop (entryFrame m #[(.ref o0_), (.int (2 : Int32)), (.double d0_), (.double d1_), (.double d2_), (.double d3_), (.double d4_), (.double d5_)] 14)) t, fun t k => castTop (efinit17 m o0_ d0_ d1_ d2_ d3_ d4_ d5_) k, fun _ k => k⟩
  have K0 : Keep h0 h0 [o0_] := Keep.refl _ _
  obtain ⟨_, _, ⟨T1, L1, k1, n1⟩, -, X1, ⟨Lc1, hQ1, l1, y1, z1⟩, st1⟩ := X0.specialBack hx (y := (⟨"java/lang/Record", "<init>", "()V"⟩ : MethodName)) rfl hown (mvT hZ (own_w hw 97 rfl)) (mvT hZ (own_w hw 98 rfl)) (mvT hZ (own_w hw 101 rfl)) (by decide) (backOf (W := 0) (rminit5 l Z a0 hw [] o0_ h0 n0 O0 P0 P1 P2 P3 P4 P5 P6 P7) hZ (own_w hw 101 rfl) (own_w hw 100 rfl) (by decide) (by decide)) (g := (mkF m 1 #[lvR o0_, lvI (2 : Int32), lvD d0_, .second, lvD d1_, .second, lvD d2_, .second, lvD d3_, .second, lvD d4_, .second, lvD d5_, .second] [(.ref o0_)])) rfl (by rw [hml]; rfl) (Steps.refl _) (a := o0_) (argsL := []) (rest := []) (lenOf pd_5 rfl) rfl (by show 2 * 0 + _ ≤ _; exact Nat.le_of_eq rfl) (hb hby d12_1) (fun _ _ => ⟨rfl, e0, (by decide : 0 + 0 ≤ _), (by decide : 0 + 0 ≤ _)⟩)
  dsimp only [Pt.U, Pt.locs, Pt.cells, Pt.slots] at X1 l1 y1 z1 st1 hQ1
  subst l1 y1 z1
  obtain ⟨h1, e1⟩ : ∃ z, T1.heap = z := ⟨_, rfl⟩
  rw [e1] at hQ1
  obtain ⟨rfl, N1q, hh1⟩ := hQ1
  have N2 := Fr.app N0 N1q
  have e1' : T1.heap = h0 := e1.trans hh1
  obtain ⟨T3, h3, X3, e3, W3, st3⟩ := putF X1 hx hZ hown (host := "") (Or.inl (own_w hw 103 rfl)) Via.refl e1' P1 P0 (Or.inr ⟨(own_w hw 104 rfl), rfl, hnm⟩) (own_w hw 92 rfl) (ty := .int) (by decide) rfl rfl (g := (mkF m 6 #[lvR o0_, lvI (2 : Int32), lvD d0_, .second, lvD d1_, .second, lvD d2_, .second, lvD d3_, .second, lvD d4_, .second, lvD d5_, .second] [(.int (2 : Int32)), (.ref o0_)])) rfl rfl (hb hby d12_6)
  have N4 := Fr.snoc X3 N2 P8
  have f5 : Fld Z h3 o0_ cn2 "n" "I" (.int (2 : Int32)) := P1.same W3
  have f6 : Fld Z h3 o0_ cn2 "r" "D" (.double (0 : UInt64)) := P2.other W3 (Or.inr (slot_ne (Or.inr (own_w hw 106 rfl)) (Or.inr (own_w hw 104 rfl)) (by decide) (t := .double) (t' := .int) (by decide) (by decide)))
  have f7 : Exa Z h3 o0_ cn2 := P0.wr W3
  obtain ⟨T8, h8, X8, e8, W8, st8⟩ := putF X3 hx hZ hown (host := "") (Or.inl (own_w hw 105 rfl)) Via.refl e3 f6 f7 (Or.inr ⟨(own_w hw 106 rfl), rfl, hnm⟩) (own_w hw 92 rfl) (ty := .double) (by decide) rfl rfl (g := (mkF m 11 #[lvR o0_, lvI (2 : Int32), lvD d0_, .second, lvD d1_, .second, lvD d2_, .second, lvD d3_, .second, lvD d4_, .second, lvD d5_, .second] [(.double d0_), (.ref o0_)])) rfl rfl (hb hby d12_11)
  have N9 := Fr.snoc X8 N4 P8
  have f10 : Fld Z h8 o0_ cn2 "r" "D" (.double d0_) := f6.same W8
  have f11 : Fld Z h3 o0_ cn2 "rHat" "D" (.double (0 : UInt64)) := P3.other W3 (Or.inr (slot_ne (Or.inr (own_w hw 108 rfl)) (Or.inr (own_w hw 104 rfl)) (by decide) (t := .double) (t' := .int) (by decide) (by decide)))
  have f12 : Fld Z h8 o0_ cn2 "rHat" "D" (.double (0 : UInt64)) := f11.other W8 (Or.inr (slot_ne (Or.inr (own_w hw 108 rfl)) (Or.inr (own_w hw 106 rfl)) (by decide) (t := .double) (t' := .double) (by decide) (by decide)))
  have f13 : Exa Z h8 o0_ cn2 := f7.wr W8
  obtain ⟨T14, h14, X14, e14, W14, st14⟩ := putF X8 hx hZ hown (host := "") (Or.inl (own_w hw 107 rfl)) Via.refl e8 f12 f13 (Or.inr ⟨(own_w hw 108 rfl), rfl, hnm⟩) (own_w hw 92 rfl) (ty := .double) (by decide) rfl rfl (g := (mkF m 17 #[lvR o0_, lvI (2 : Int32), lvD d0_, .second, lvD d1_, .second, lvD d2_, .second, lvD d3_, .second, lvD d4_, .second, lvD d5_, .second] [(.double d1_), (.ref o0_)])) rfl rfl (hb hby d12_17)
  have N15 := Fr.snoc X14 N9 P8
  have f16 : Fld Z h14 o0_ cn2 "rHat" "D" (.double d1_) := f12.same W14
  have f17 : Fld Z h3 o0_ cn2 "p" "D" (.double (0 : UInt64)) := P4.other W3 (Or.inr (slot_ne (Or.inr (own_w hw 110 rfl)) (Or.inr (own_w hw 104 rfl)) (by decide) (t := .double) (t' := .int) (by decide) (by decide)))
  have f18 : Fld Z h8 o0_ cn2 "p" "D" (.double (0 : UInt64)) := f17.other W8 (Or.inr (slot_ne (Or.inr (own_w hw 110 rfl)) (Or.inr (own_w hw 106 rfl)) (by decide) (t := .double) (t' := .double) (by decide) (by decide)))
  have f19 : Fld Z h14 o0_ cn2 "p" "D" (.double (0 : UInt64)) := f18.other W14 (Or.inr (slot_ne (Or.inr (own_w hw 110 rfl)) (Or.inr (own_w hw 108 rfl)) (by decide) (t := .double) (t' := .double) (by decide) (by decide)))
  have f20 : Exa Z h14 o0_ cn2 := f13.wr W14
  obtain ⟨T21, h21, X21, e21, W21, st21⟩ := putF X14 hx hZ hown (host := "") (Or.inl (own_w hw 109 rfl)) Via.refl e14 f19 f20 (Or.inr ⟨(own_w hw 110 rfl), rfl, hnm⟩) (own_w hw 92 rfl) (ty := .double) (by decide) rfl rfl (g := (mkF m 23 #[lvR o0_, lvI (2 : Int32), lvD d0_, .second, lvD d1_, .second, lvD d2_, .second, lvD d3_, .second, lvD d4_, .second, lvD d5_, .second] [(.double d2_), (.ref o0_)])) rfl rfl (hb hby d12_23)
  have N22 := Fr.snoc X21 N15 P8
  have f23 : Fld Z h21 o0_ cn2 "p" "D" (.double d2_) := f19.same W21
  have f24 : Fld Z h3 o0_ cn2 "accuracy" "D" (.double (0 : UInt64)) := P5.other W3 (Or.inr (slot_ne (Or.inr (own_w hw 112 rfl)) (Or.inr (own_w hw 104 rfl)) (by decide) (t := .double) (t' := .int) (by decide) (by decide)))
  have f25 : Fld Z h8 o0_ cn2 "accuracy" "D" (.double (0 : UInt64)) := f24.other W8 (Or.inr (slot_ne (Or.inr (own_w hw 112 rfl)) (Or.inr (own_w hw 106 rfl)) (by decide) (t := .double) (t' := .double) (by decide) (by decide)))
  have f26 : Fld Z h14 o0_ cn2 "accuracy" "D" (.double (0 : UInt64)) := f25.other W14 (Or.inr (slot_ne (Or.inr (own_w hw 112 rfl)) (Or.inr (own_w hw 108 rfl)) (by decide) (t := .double) (t' := .double) (by decide) (by decide)))
  have f27 : Fld Z h21 o0_ cn2 "accuracy" "D" (.double (0 : UInt64)) := f26.other W21 (Or.inr (slot_ne (Or.inr (own_w hw 112 rfl)) (Or.inr (own_w hw 110 rfl)) (by decide) (t := .double) (t' := .double) (by decide) (by decide)))
  have f28 : Exa Z h21 o0_ cn2 := f20.wr W21
  obtain ⟨T29, h29, X29, e29, W29, st29⟩ := putF X21 hx hZ hown (host := "") (Or.inl (own_w hw 111 rfl)) Via.refl e21 f27 f28 (Or.inr ⟨(own_w hw 112 rfl), rfl, hnm⟩) (own_w hw 92 rfl) (ty := .double) (by decide) rfl rfl (g := (mkF m 29 #[lvR o0_, lvI (2 : Int32), lvD d0_, .second, lvD d1_, .second, lvD d2_, .second, lvD d3_, .second, lvD d4_, .second, lvD d5_, .second] [(.double d3_), (.ref o0_)])) rfl rfl (hb hby d12_29)
  have N30 := Fr.snoc X29 N22 P8
  have f31 : Fld Z h29 o0_ cn2 "accuracy" "D" (.double d3_) := f27.same W29
  have f32 : Fld Z h3 o0_ cn2 "share" "D" (.double (0 : UInt64)) := P6.other W3 (Or.inr (slot_ne (Or.inr (own_w hw 114 rfl)) (Or.inr (own_w hw 104 rfl)) (by decide) (t := .double) (t' := .int) (by decide) (by decide)))
  have f33 : Fld Z h8 o0_ cn2 "share" "D" (.double (0 : UInt64)) := f32.other W8 (Or.inr (slot_ne (Or.inr (own_w hw 114 rfl)) (Or.inr (own_w hw 106 rfl)) (by decide) (t := .double) (t' := .double) (by decide) (by decide)))
  have f34 : Fld Z h14 o0_ cn2 "share" "D" (.double (0 : UInt64)) := f33.other W14 (Or.inr (slot_ne (Or.inr (own_w hw 114 rfl)) (Or.inr (own_w hw 108 rfl)) (by decide) (t := .double) (t' := .double) (by decide) (by decide)))
  have f35 : Fld Z h21 o0_ cn2 "share" "D" (.double (0 : UInt64)) := f34.other W21 (Or.inr (slot_ne (Or.inr (own_w hw 114 rfl)) (Or.inr (own_w hw 110 rfl)) (by decide) (t := .double) (t' := .double) (by decide) (by decide)))
  have f36 : Fld Z h29 o0_ cn2 "share" "D" (.double (0 : UInt64)) := f35.other W29 (Or.inr (slot_ne (Or.inr (own_w hw 114 rfl)) (Or.inr (own_w hw 112 rfl)) (by decide) (t := .double) (t' := .double) (by decide) (by decide)))
  have f37 : Exa Z h29 o0_ cn2 := f28.wr W29
  obtain ⟨T38, h38, X38, e38, W38, st38⟩ := putF X29 hx hZ hown (host := "") (Or.inl (own_w hw 113 rfl)) Via.refl e29 f36 f37 (Or.inr ⟨(own_w hw 114 rfl), rfl, hnm⟩) (own_w hw 92 rfl) (ty := .double) (by decide) rfl rfl (g := (mkF m 35 #[lvR o0_, lvI (2 : Int32), lvD d0_, .second, lvD d1_, .second, lvD d2_, .second, lvD d3_, .second, lvD d4_, .second, lvD d5_, .second] [(.double d4_), (.ref o0_)])) rfl rfl (hb hby d12_35)
  have N39 := Fr.snoc X38 N30 P8
  have f40 : Fld Z h38 o0_ cn2 "share" "D" (.double d4_) := f36.same W38
  have f41 : Fld Z h3 o0_ cn2 "cp" "D" (.double (0 : UInt64)) := P7.other W3 (Or.inr (slot_ne (Or.inr (own_w hw 116 rfl)) (Or.inr (own_w hw 104 rfl)) (by decide) (t := .double) (t' := .int) (by decide) (by decide)))
  have f42 : Fld Z h8 o0_ cn2 "cp" "D" (.double (0 : UInt64)) := f41.other W8 (Or.inr (slot_ne (Or.inr (own_w hw 116 rfl)) (Or.inr (own_w hw 106 rfl)) (by decide) (t := .double) (t' := .double) (by decide) (by decide)))
  have f43 : Fld Z h14 o0_ cn2 "cp" "D" (.double (0 : UInt64)) := f42.other W14 (Or.inr (slot_ne (Or.inr (own_w hw 116 rfl)) (Or.inr (own_w hw 108 rfl)) (by decide) (t := .double) (t' := .double) (by decide) (by decide)))
  have f44 : Fld Z h21 o0_ cn2 "cp" "D" (.double (0 : UInt64)) := f43.other W21 (Or.inr (slot_ne (Or.inr (own_w hw 116 rfl)) (Or.inr (own_w hw 110 rfl)) (by decide) (t := .double) (t' := .double) (by decide) (by decide)))
  have f45 : Fld Z h29 o0_ cn2 "cp" "D" (.double (0 : UInt64)) := f44.other W29 (Or.inr (slot_ne (Or.inr (own_w hw 116 rfl)) (Or.inr (own_w hw 112 rfl)) (by decide) (t := .double) (t' := .double) (by decide) (by decide)))
  have f46 : Fld Z h38 o0_ cn2 "cp" "D" (.double (0 : UInt64)) := f45.other W38 (Or.inr (slot_ne (Or.inr (own_w hw 116 rfl)) (Or.inr (own_w hw 114 rfl)) (by decide) (t := .double) (t' := .double) (by decide) (by decide)))
  have f47 : Exa Z h38 o0_ cn2 := f37.wr W38
  obtain ⟨T48, h48, X48, e48, W48, st48⟩ := putF X38 hx hZ hown (host := "") (Or.inl (own_w hw 115 rfl)) Via.refl e38 f46 f47 (Or.inr ⟨(own_w hw 116 rfl), rfl, hnm⟩) (own_w hw 92 rfl) (ty := .double) (by decide) rfl rfl (g := (mkF m 41 #[lvR o0_, lvI (2 : Int32), lvD d0_, .second, lvD d1_, .second, lvD d2_, .second, lvD d3_, .second, lvD d4_, .second, lvD d5_, .second] [(.double d5_), (.ref o0_)])) rfl rfl (hb hby d12_41)
  have N49 := Fr.snoc X48 N39 P8
  have f50 : Fld Z h48 o0_ cn2 "cp" "D" (.double d5_) := f46.same W48
  have pre51 : ∀ t, own_S p e below m T48 44 #[lvR o0_, lvI (2 : Int32), lvD d0_, .second, lvD d1_, .second, lvD d2_, .second, lvD d3_, .second, lvD d4_, .second, lvD d5_, .second] [] t → G t := by
    intro t kt
    refine pre0 t ?_
    show own_S p e below m s₁ 0 #[lvR o0_, lvI (2 : Int32), lvD d0_, .second, lvD d1_, .second, lvD d2_, .second, lvD d3_, .second, lvD d4_, .second, lvD d5_, .second] [] _
    refine XS.aloadN X0.here hx rfl (hb hby d12_0) rfl rfl ?_
    show own_S p e below m s₁ 1 #[lvR o0_, lvI (2 : Int32), lvD d0_, .second, lvD d1_, .second, lvD d2_, .second, lvD d3_, .second, lvD d4_, .second, lvD d5_, .second] [(.ref o0_)] _
    refine st1.trans ?_
    refine XS.aloadN X1.here hx rfl (hb hby d12_4) rfl rfl ?_
    refine XS.iloadN X1.here hx rfl (hb hby d12_5) rfl ?_
    show own_S p e below m T1 6 #[lvR o0_, lvI (2 : Int32), lvD d0_, .second, lvD d1_, .second, lvD d2_, .second, lvD d3_, .second, lvD d4_, .second, lvD d5_, .second] [(.int (2 : Int32)), (.ref o0_)] _
    refine st3 _ ?_
    refine XS.aloadN X3.here hx rfl (hb hby d12_9) rfl rfl ?_
    refine XS.dloadN X3.here hx rfl (hb hby d12_10) rfl ?_
    show own_S p e below m T3 11 #[lvR o0_, lvI (2 : Int32), lvD d0_, .second, lvD d1_, .second, lvD d2_, .second, lvD d3_, .second, lvD d4_, .second, lvD d5_, .second] [(.double d0_), (.ref o0_)] _
    refine st8 _ ?_
    refine XS.aloadN X8.here hx rfl (hb hby d12_14) rfl rfl ?_
    refine XS.dload X8.here hx rfl (hb hby d12_15) rfl ?_
    show own_S p e below m T8 17 #[lvR o0_, lvI (2 : Int32), lvD d0_, .second, lvD d1_, .second, lvD d2_, .second, lvD d3_, .second, lvD d4_, .second, lvD d5_, .second] [(.double d1_), (.ref o0_)] _
    refine st14 _ ?_
    refine XS.aloadN X14.here hx rfl (hb hby d12_20) rfl rfl ?_
    refine XS.dload X14.here hx rfl (hb hby d12_21) rfl ?_
    show own_S p e below m T14 23 #[lvR o0_, lvI (2 : Int32), lvD d0_, .second, lvD d1_, .second, lvD d2_, .second, lvD d3_, .second, lvD d4_, .second, lvD d5_, .second] [(.double d2_), (.ref o0_)] _
    refine st21 _ ?_
    refine XS.aloadN X21.here hx rfl (hb hby d12_26) rfl rfl ?_
    refine XS.dload X21.here hx rfl (hb hby d12_27) rfl ?_
    show own_S p e below m T21 29 #[lvR o0_, lvI (2 : Int32), lvD d0_, .second, lvD d1_, .second, lvD d2_, .second, lvD d3_, .second, lvD d4_, .second, lvD d5_, .second] [(.double d3_), (.ref o0_)] _
    refine st29 _ ?_
    refine XS.aloadN X29.here hx rfl (hb hby d12_32) rfl rfl ?_
    refine XS.dload X29.here hx rfl (hb hby d12_33) rfl ?_
    show own_S p e below m T29 35 #[lvR o0_, lvI (2 : Int32), lvD d0_, .second, lvD d1_, .second, lvD d2_, .second, lvD d3_, .second, lvD d4_, .second, lvD d5_, .second] [(.double d4_), (.ref o0_)] _
    refine st38 _ ?_
    refine XS.aloadN X38.here hx rfl (hb hby d12_38) rfl rfl ?_
    refine XS.dload X38.here hx rfl (hb hby d12_39) rfl ?_
    show own_S p e below m T38 41 #[lvR o0_, lvI (2 : Int32), lvD d0_, .second, lvD d1_, .second, lvD d2_, .second, lvD d3_, .second, lvD d4_, .second, lvD d5_, .second] [(.double d5_), (.ref o0_)] _
    refine st48 _ ?_
    exact kt
  have f53 : Keep h0 h3 [o0_] := K0.wr W3 (Or.inl (List.mem_of_getElem? (i := 0) rfl))
  have f54 : Keep h0 h8 [o0_] := f53.wr W8 (Or.inl (List.mem_of_getElem? (i := 0) rfl))
  have f55 : Keep h0 h14 [o0_] := f54.wr W14 (Or.inl (List.mem_of_getElem? (i := 0) rfl))
  have f56 : Keep h0 h21 [o0_] := f55.wr W21 (Or.inl (List.mem_of_getElem? (i := 0) rfl))
  have f57 : Keep h0 h29 [o0_] := f56.wr W29 (Or.inl (List.mem_of_getElem? (i := 0) rfl))
  have f58 : Keep h0 h38 [o0_] := f57.wr W38 (Or.inl (List.mem_of_getElem? (i := 0) rfl))
  have f59 : Keep h0 h48 [o0_] := f58.wr W48 (Or.inl (List.mem_of_getElem? (i := 0) rfl))
  have f60 : Exa Z h48 o0_ cn2 := f47.wr W48
  have f61 : Fld Z h8 o0_ cn2 "n" "I" (.int (2 : Int32)) := f5.other W8 (Or.inr (slot_ne (Or.inr (own_w hw 104 rfl)) (Or.inr (own_w hw 106 rfl)) (by decide) (t := .int) (t' := .double) (by decide) (by decide)))
  have f62 : Fld Z h14 o0_ cn2 "n" "I" (.int (2 : Int32)) := f61.other W14 (Or.inr (slot_ne (Or.inr (own_w hw 104 rfl)) (Or.inr (own_w hw 108 rfl)) (by decide) (t := .int) (t' := .double) (by decide) (by decide)))
  have f63 : Fld Z h21 o0_ cn2 "n" "I" (.int (2 : Int32)) := f62.other W21 (Or.inr (slot_ne (Or.inr (own_w hw 104 rfl)) (Or.inr (own_w hw 110 rfl)) (by decide) (t := .int) (t' := .double) (by decide) (by decide)))
  have f64 : Fld Z h29 o0_ cn2 "n" "I" (.int (2 : Int32)) := f63.other W29 (Or.inr (slot_ne (Or.inr (own_w hw 104 rfl)) (Or.inr (own_w hw 112 rfl)) (by decide) (t := .int) (t' := .double) (by decide) (by decide)))
  have f65 : Fld Z h38 o0_ cn2 "n" "I" (.int (2 : Int32)) := f64.other W38 (Or.inr (slot_ne (Or.inr (own_w hw 104 rfl)) (Or.inr (own_w hw 114 rfl)) (by decide) (t := .int) (t' := .double) (by decide) (by decide)))
  have f66 : Fld Z h48 o0_ cn2 "n" "I" (.int (2 : Int32)) := f65.other W48 (Or.inr (slot_ne (Or.inr (own_w hw 104 rfl)) (Or.inr (own_w hw 116 rfl)) (by decide) (t := .int) (t' := .double) (by decide) (by decide)))
  have f67 : Fld Z h14 o0_ cn2 "r" "D" (.double d0_) := f10.other W14 (Or.inr (slot_ne (Or.inr (own_w hw 106 rfl)) (Or.inr (own_w hw 108 rfl)) (by decide) (t := .double) (t' := .double) (by decide) (by decide)))
  have f68 : Fld Z h21 o0_ cn2 "r" "D" (.double d0_) := f67.other W21 (Or.inr (slot_ne (Or.inr (own_w hw 106 rfl)) (Or.inr (own_w hw 110 rfl)) (by decide) (t := .double) (t' := .double) (by decide) (by decide)))
  have f69 : Fld Z h29 o0_ cn2 "r" "D" (.double d0_) := f68.other W29 (Or.inr (slot_ne (Or.inr (own_w hw 106 rfl)) (Or.inr (own_w hw 112 rfl)) (by decide) (t := .double) (t' := .double) (by decide) (by decide)))
  have f70 : Fld Z h38 o0_ cn2 "r" "D" (.double d0_) := f69.other W38 (Or.inr (slot_ne (Or.inr (own_w hw 106 rfl)) (Or.inr (own_w hw 114 rfl)) (by decide) (t := .double) (t' := .double) (by decide) (by decide)))
  have f71 : Fld Z h48 o0_ cn2 "r" "D" (.double d0_) := f70.other W48 (Or.inr (slot_ne (Or.inr (own_w hw 106 rfl)) (Or.inr (own_w hw 116 rfl)) (by decide) (t := .double) (t' := .double) (by decide) (by decide)))
  have f72 : Fld Z h21 o0_ cn2 "rHat" "D" (.double d1_) := f16.other W21 (Or.inr (slot_ne (Or.inr (own_w hw 108 rfl)) (Or.inr (own_w hw 110 rfl)) (by decide) (t := .double) (t' := .double) (by decide) (by decide)))
  have f73 : Fld Z h29 o0_ cn2 "rHat" "D" (.double d1_) := f72.other W29 (Or.inr (slot_ne (Or.inr (own_w hw 108 rfl)) (Or.inr (own_w hw 112 rfl)) (by decide) (t := .double) (t' := .double) (by decide) (by decide)))
  have f74 : Fld Z h38 o0_ cn2 "rHat" "D" (.double d1_) := f73.other W38 (Or.inr (slot_ne (Or.inr (own_w hw 108 rfl)) (Or.inr (own_w hw 114 rfl)) (by decide) (t := .double) (t' := .double) (by decide) (by decide)))
  have f75 : Fld Z h48 o0_ cn2 "rHat" "D" (.double d1_) := f74.other W48 (Or.inr (slot_ne (Or.inr (own_w hw 108 rfl)) (Or.inr (own_w hw 116 rfl)) (by decide) (t := .double) (t' := .double) (by decide) (by decide)))
  have f76 : Fld Z h29 o0_ cn2 "p" "D" (.double d2_) := f23.other W29 (Or.inr (slot_ne (Or.inr (own_w hw 110 rfl)) (Or.inr (own_w hw 112 rfl)) (by decide) (t := .double) (t' := .double) (by decide) (by decide)))
  have f77 : Fld Z h38 o0_ cn2 "p" "D" (.double d2_) := f76.other W38 (Or.inr (slot_ne (Or.inr (own_w hw 110 rfl)) (Or.inr (own_w hw 114 rfl)) (by decide) (t := .double) (t' := .double) (by decide) (by decide)))
  have f78 : Fld Z h48 o0_ cn2 "p" "D" (.double d2_) := f77.other W48 (Or.inr (slot_ne (Or.inr (own_w hw 110 rfl)) (Or.inr (own_w hw 116 rfl)) (by decide) (t := .double) (t' := .double) (by decide) (by decide)))
  have f79 : Fld Z h38 o0_ cn2 "accuracy" "D" (.double d3_) := f31.other W38 (Or.inr (slot_ne (Or.inr (own_w hw 112 rfl)) (Or.inr (own_w hw 114 rfl)) (by decide) (t := .double) (t' := .double) (by decide) (by decide)))
  have f80 : Fld Z h48 o0_ cn2 "accuracy" "D" (.double d3_) := f79.other W48 (Or.inr (slot_ne (Or.inr (own_w hw 112 rfl)) (Or.inr (own_w hw 116 rfl)) (by decide) (t := .double) (t' := .double) (by decide) (by decide)))
  have f81 : Fld Z h48 o0_ cn2 "share" "D" (.double d4_) := f40.other W48 (Or.inr (slot_ne (Or.inr (own_w hw 114 rfl)) (Or.inr (own_w hw 116 rfl)) (by decide) (t := .double) (t' := .double) (by decide) (by decide)))
  obtain ⟨fs, hr, hrun, hended, hW, hsame⟩ := X48.leave (v := none) (fun _ => rfl)
  refine ⟨_, _, hG _ (pre51 _ (X48.returnOut hx Bd.returns (hb hby d12_44) hr)), hrun, hended, _, _, rfl, ?_, ⟨_, rfl⟩, hW, hsame.mono (by decide) (by decide)⟩
  show Qinit17 Z o0_ d0_ d1_ d2_ d3_ d4_ d5_ h0 n0 _ T48.heap _
  rw [e48]
  exact ⟨rfl, N49, f59, f60, f66, f71, f75, f78, f80, f81, f50⟩
theorem efadd19 (m : MethodId) (o0_ : Addr) (o1_ : Addr) (o2_ : Addr) : entryFrame m #[(.ref o0_), (.ref o1_), (.ref o2_), (.int (1 : Int32))] 4 = mkF m 0 #[lvR o0_, lvR o1_, lvR o2_, lvI (1 : Int32)] [] := by first | (simp [entryFrame, mkF, argsToLocals, Value.category]; done) | rfl
def Qadd19 (Z : State) (o0_ : Addr) (o1_ : Addr) (o2_ : Addr) (d0_ : UInt64) (d1_ : UInt64) (d2_ : UInt64) (d3_ : UInt64) (d4_ : UInt64) (d5_ : UInt64) (ko2_ : ClassId) (o3_ : Addr) (d6_ : UInt64) (d7_ : UInt64) (d8_ : UInt64) (d9_ : UInt64) (d10_ : UInt64) (d11_ : UInt64) (h0 : Heap) (n0 : Nat) (v : Option Value) (h : Heap) (L : List Loc) : Prop := v = none ∧ Fr n0 L ∧ Keep h0 h [o2_, o0_] ∧ Exa Z h o0_ "java/util/ArrayList" ∧ Fld Z h o0_ "java/util/AbstractList" "modCount" "I" (.int (2 : Int32)) ∧ Fld Z h o0_ "java/util/ArrayList" "elementData" "[Ljava/lang/Object;" (.ref o2_) ∧ Fld Z h o0_ "java/util/ArrayList" "size" "I" (.int (2 : Int32)) ∧ Arv Z h o2_ ko2_ (.object "java/lang/Object") (10 : Int32) [(.ref o3_), (.ref o1_), .null, .null, .null, .null, .null, .null, .null, .null] .null ∧ Exa Z h o2_ "[Ljava/lang/Object;"
set_option maxRecDepth 65536 in
set_option maxHeartbeats 40000000 in
theorem rmadd19 (l : Launch) (Z : State) (a0 : Array Value) (hw : ∀ d ∈ tables_1, d.before a0 Z = true) (ws : List Jvm.Cond) (o0_ : Addr) (o1_ : Addr) (o2_ : Addr) (d0_ : UInt64) (d1_ : UInt64) (d2_ : UInt64) (d3_ : UInt64) (d4_ : UInt64) (d5_ : UInt64) (ko2_ : ClassId) (o3_ : Addr) (d6_ : UInt64) (d7_ : UInt64) (d8_ : UInt64) (d9_ : UInt64) (d10_ : UInt64) (d11_ : UInt64) (h0 : Heap) (n0 : Nat) (O0 : Old Z n0 h0) (P0 : Exa Z h0 o0_ "java/util/ArrayList") (P1 : Fld Z h0 o0_ "java/util/AbstractList" "modCount" "I" (.int (2 : Int32))) (P2 : Fld Z h0 o0_ "java/util/ArrayList" "elementData" "[Ljava/lang/Object;" (.ref o2_)) (P3 : Fld Z h0 o0_ "java/util/ArrayList" "size" "I" (.int (1 : Int32))) (P4 : Exa Z h0 o1_ cn2) (P5 : Fld Z h0 o1_ cn2 "n" "I" (.int (2 : Int32))) (P6 : Fld Z h0 o1_ cn2 "r" "D" (.double d0_)) (P7 : Fld Z h0 o1_ cn2 "rHat" "D" (.double d1_)) (P8 : Fld Z h0 o1_ cn2 "p" "D" (.double d2_)) (P9 : Fld Z h0 o1_ cn2 "accuracy" "D" (.double d3_)) (P10 : Fld Z h0 o1_ cn2 "share" "D" (.double d4_)) (P11 : Fld Z h0 o1_ cn2 "cp" "D" (.double d5_)) (P12 : Arv Z h0 o2_ ko2_ (.object "java/lang/Object") (10 : Int32) [(.ref o3_), .null, .null, .null, .null, .null, .null, .null, .null, .null] .null) (P13 : Exa Z h0 o2_ "[Ljava/lang/Object;") (P14 : Exa Z h0 o3_ cn2) (P15 : Fld Z h0 o3_ cn2 "n" "I" (.int (1 : Int32))) (P16 : Fld Z h0 o3_ cn2 "r" "D" (.double d6_)) (P17 : Fld Z h0 o3_ cn2 "rHat" "D" (.double d7_)) (P18 : Fld Z h0 o3_ cn2 "p" "D" (.double d8_)) (P19 : Fld Z h0 o3_ cn2 "accuracy" "D" (.double d9_)) (P20 : Fld Z h0 o3_ cn2 "share" "D" (.double d10_)) (P21 : Fld Z h0 o3_ cn2 "cp" "D" (.double d11_)) (P22 : n0 ≤ o2_) (P23 : o0_ ≠ o2_) (P24 : n0 ≤ o0_) :
    MetFree l mn4 (head1 (Jvm.Cond.code mn4 jdk_38_method_24_code 4 none :: ws) ({ frames := 0, cells := 0, slots := 0, locals := 0 } : Room)) (fun a U => a = #[(.ref o0_), (.ref o1_), (.ref o2_), (.int (1 : Int32))] ∧ Z.Warmed39 U.vm ∧ U.heap = h0) (fun _ _ _ _ _ => True) (fun _ U o U' => ∃ v L, o = .returned v ∧ Qadd19 Z o0_ o1_ o2_ d0_ d1_ d2_ d3_ d4_ d5_ ko2_ o3_ d6_ d7_ d8_ d9_ d10_ d11_ h0 n0 v U'.heap L ∧ FrameEnd U o U' L ({ frames := 0, cells := 0, slots := 0, locals := 0 } : Room).cells ({ frames := 0, cells := 0, slots := 0, locals := 0 } : Room).slots) := by
  refine MetFree.of_bodySF (plainFor_of_name pn_5) hisR ?_
  intro p e s m args below meth c s₁ Bd hml0 hP hK
  obtain ⟨rfl, hZ, hh⟩ := hP
  have hx := Bd.exec
  have hby := Bd.bytes
  have hml : c.maxLocals = 4 := hml0
  have hown : s.vm.findClass "java/util/ArrayList" = some m.cls := findClass_of_methodNamed Bd.named
  have hnm := (name_of_methodNamed Bd.named Bd.method).1
  have X0 : Stand p l e ({ frames := 0, cells := 0, slots := 0, locals := 0 } : Room) s m #[(.ref o0_), (.ref o1_), (.ref o2_), (.int (1 : Int32))] below meth c s₁ [] 0 0 := Stand.of_body Bd
  have e0 : s₁.heap = h0 := by rw [← hh, Bd.state]; rfl
  have N0 := Fr.nil n0
  obtain ⟨G, pre0, hG⟩ : ∃ G : State → Prop, (∀ t, own_S p e below m s₁ 0 #[lvR o0_, lvR o1_, lvR o2_, lvI (1 : Int32)] [] t → G t) ∧ (∀ t, G t → Steps p.tables e below (s₁.setTop (entryFrame m #[(.ref o0_), (.ref o1_), (.ref o2_), (.int (1 : Int32))] 4)) t) := ⟨fun t => Steps p.tables e below (s₁.setTop (entryFrame m #[(.ref o0_), (.ref o1_), (.ref o2_), (.int (1 : Int32))] 4)) t, fun t k => castTop (efadd19 m o0_ o1_ o2_) k, fun _ k => k⟩
  have K0 : Keep h0 h0 [o2_, o0_] := Keep.refl _ _
  obtain ⟨c1, r1, q1, s1, z1, y1, G1⟩ := id P12
  obtain ⟨c2, r2, q2, s2, z2, y2, G2⟩ := id P12
  have hin2 : ¬ ((1 : Int32) < 0 ∨ c2.slots.size ≤ ((1 : Int32)).toNatClampNeg) := inb_of s2 ⟨by decide, by decide⟩
  obtain ⟨T2, h2, X2, e2, W2, st2⟩ := stR X0 hx hZ e0 r2 (j := (1 : Int32)) hin2 rfl (Sto.of r2 (own_ovr (own_w hw 150 rfl) P13 r2.1 (by decide)) (Ins.of_exa P4 (own_w hw 151 rfl))) (g := (mkF m 14 #[lvR o0_, lvR o1_, lvR o2_, lvI (1 : Int32)] [(.ref o1_), (.int (1 : Int32)), (.ref o2_)])) rfl rfl (hb hby d15_14)
  have N3 := Fr.snoc X2 N0 P22
  have f4 : Arv Z h2 o2_ ko2_ (.object "java/lang/Object") (10 : Int32) [(.ref o3_), (.ref o1_), .null, .null, .null, .null, .null, .null, .null, .null] .null := Arv.set r2 q2 s2 z2 y2 G2 rfl W2 1 rfl (Nat.le_of_ble_eq_true rfl)
  have f5 : Fld Z h2 o0_ "java/util/ArrayList" "size" "I" (.int (1 : Int32)) := P3.other W2 (Or.inl P23)
  have f6 : Exa Z h2 o0_ "java/util/ArrayList" := P0.wr W2
  obtain ⟨T7, h7, X7, e7, W7, st7⟩ := putF X2 hx hZ hown (host := "") (Or.inl (own_w hw 128 rfl)) Via.refl e2 f5 f6 (Or.inl (own_w hw 129 rfl)) (own_w hw 68 rfl) (ty := .int) (by decide) rfl rfl (g := (mkF m 19 #[lvR o0_, lvR o1_, lvR o2_, lvI (1 : Int32)] [(.int (2 : Int32)), (.ref o0_)])) rfl rfl (hb hby d15_19)
  have N8 := Fr.snoc X7 N3 P24
  have f9 : Fld Z h7 o0_ "java/util/ArrayList" "size" "I" (.int (2 : Int32)) := f5.same W7
  have pre10 : ∀ t, own_S p e below m T7 22 #[lvR o0_, lvR o1_, lvR o2_, lvI (1 : Int32)] [] t → G t := by
    intro t kt
    refine pre0 t ?_
    show own_S p e below m s₁ 0 #[lvR o0_, lvR o1_, lvR o2_, lvI (1 : Int32)] [] _
    refine XS.iloadN X0.here hx rfl (hb hby d15_0) rfl ?_
    refine XS.aloadN X0.here hx rfl (hb hby d15_1) rfl rfl ?_
    show own_S p e below m s₁ 2 #[lvR o0_, lvR o1_, lvR o2_, lvI (1 : Int32)] [(.ref o2_), (.int (1 : Int32))] _
    refine X0.arraylength hx (by rw [e0]; exact r1.1) (State.isArrayOf_alike hZ.alike r1.2.1) (g := (mkF m 2 #[lvR o0_, lvR o1_, lvR o2_, lvI (1 : Int32)] [(.ref o2_), (.int (1 : Int32))])) rfl rfl (hb hby d15_2) _ ?_
    rw [len_of s1 z1]
    show own_S p e below m s₁ 3 #[lvR o0_, lvR o1_, lvR o2_, lvI (1 : Int32)] [(.int (10 : Int32)), (.int (1 : Int32))] _
    refine XS.icmpYes X0.here hx rfl (pc0 := 3) (pc' := 11) rfl (hb hby d15_3) rfl (feq (by decide : ¬ ((1 : Int32) = (10 : Int32)))).2 (by decide) (by decide) ?_
    refine XS.aloadN X0.here hx rfl (hb hby d15_11) rfl rfl ?_
    refine XS.iloadN X0.here hx rfl (hb hby d15_12) rfl ?_
    refine XS.aloadN X0.here hx rfl (hb hby d15_13) rfl rfl ?_
    show own_S p e below m s₁ 14 #[lvR o0_, lvR o1_, lvR o2_, lvI (1 : Int32)] [(.ref o1_), (.int (1 : Int32)), (.ref o2_)] _
    refine st2 _ ?_
    refine XS.aloadN X2.here hx rfl (hb hby d15_15) rfl rfl ?_
    refine XS.iloadN X2.here hx rfl (hb hby d15_16) rfl ?_
    refine XS.iconst X2.here hx rfl (hb hby d15_17) ?_
    refine XS.iadd X2.here hx rfl (hb hby d15_18) rfl ?_
    show own_S p e below m T2 19 #[lvR o0_, lvR o1_, lvR o2_, lvI (1 : Int32)] [(.int (2 : Int32)), (.ref o0_)] _
    refine st7 _ ?_
    exact kt
  have f12 : Keep h0 h2 [o2_, o0_] := K0.wr W2 (Or.inl (List.mem_of_getElem? (i := 0) rfl))
  have f13 : Keep h0 h7 [o2_, o0_] := f12.wr W7 (Or.inl (List.mem_of_getElem? (i := 1) rfl))
  have f14 : Exa Z h7 o0_ "java/util/ArrayList" := f6.wr W7
  have f15 : Fld Z h2 o0_ "java/util/AbstractList" "modCount" "I" (.int (2 : Int32)) := P1.other W2 (Or.inl P23)
  have f16 : Fld Z h7 o0_ "java/util/AbstractList" "modCount" "I" (.int (2 : Int32)) := f15.other W7 (Or.inr (slot_ne (Or.inl (own_w hw 87 rfl)) (Or.inl (own_w hw 129 rfl)) (by decide) (t := .int) (t' := .int) (by decide) (by decide)))
  have f17 : Fld Z h2 o0_ "java/util/ArrayList" "elementData" "[Ljava/lang/Object;" (.ref o2_) := P2.other W2 (Or.inl P23)
  have f18 : Fld Z h7 o0_ "java/util/ArrayList" "elementData" "[Ljava/lang/Object;" (.ref o2_) := f17.other W7 (Or.inr (slot_ne (Or.inl (own_w hw 90 rfl)) (Or.inl (own_w hw 129 rfl)) (by decide) (t := (.array (.object "java/lang/Object"))) (t' := .int) (by decide) (by decide)))
  have f19 : Arv Z h7 o2_ ko2_ (.object "java/lang/Object") (10 : Int32) [(.ref o3_), (.ref o1_), .null, .null, .null, .null, .null, .null, .null, .null] .null := f4.other W7 (Ne.symm P23)
  have f20 : Exa Z h2 o2_ "[Ljava/lang/Object;" := P13.wr W2
  have f21 : Exa Z h7 o2_ "[Ljava/lang/Object;" := f20.wr W7
  obtain ⟨fs, hr, hrun, hended, hW, hsame⟩ := X7.leave (v := none) (fun _ => rfl)
  refine ⟨_, _, hG _ (pre10 _ (X7.returnOut hx Bd.returns (hb hby d15_22) hr)), hrun, hended, _, _, rfl, ?_, ⟨_, rfl⟩, hW, hsame.mono (by decide) (by decide)⟩
  show Qadd19 Z o0_ o1_ o2_ d0_ d1_ d2_ d3_ d4_ d5_ ko2_ o3_ d6_ d7_ d8_ d9_ d10_ d11_ h0 n0 _ T7.heap _
  rw [e7]
  exact ⟨rfl, N8, f13, f14, f16, f18, f9, f19, f21⟩
theorem efadd18 (m : MethodId) (o0_ : Addr) (o1_ : Addr) : entryFrame m #[(.ref o0_), (.ref o1_)] 2 = mkF m 0 #[lvR o0_, lvR o1_] [] := by first | (simp [entryFrame, mkF, argsToLocals, Value.category]; done) | rfl
def Qadd18 (Z : State) (o0_ : Addr) (o1_ : Addr) (o2_ : Addr) (d0_ : UInt64) (d1_ : UInt64) (d2_ : UInt64) (d3_ : UInt64) (d4_ : UInt64) (d5_ : UInt64) (ko2_ : ClassId) (o3_ : Addr) (d6_ : UInt64) (d7_ : UInt64) (d8_ : UInt64) (d9_ : UInt64) (d10_ : UInt64) (d11_ : UInt64) (h0 : Heap) (n0 : Nat) (v : Option Value) (h : Heap) (L : List Loc) : Prop := v = some (.int (1 : Int32)) ∧ Fr n0 L ∧ Keep h0 h [o0_, o2_] ∧ Exa Z h o0_ "java/util/ArrayList" ∧ Fld Z h o0_ "java/util/AbstractList" "modCount" "I" (.int (2 : Int32)) ∧ Fld Z h o0_ "java/util/ArrayList" "elementData" "[Ljava/lang/Object;" (.ref o2_) ∧ Fld Z h o0_ "java/util/ArrayList" "size" "I" (.int (2 : Int32)) ∧ Arv Z h o2_ ko2_ (.object "java/lang/Object") (10 : Int32) [(.ref o3_), (.ref o1_), .null, .null, .null, .null, .null, .null, .null, .null] .null ∧ Exa Z h o2_ "[Ljava/lang/Object;"
set_option maxRecDepth 65536 in
set_option maxHeartbeats 40000000 in
theorem rmadd18 (l : Launch) (Z : State) (a0 : Array Value) (hw : ∀ d ∈ tables_1, d.before a0 Z = true) (ws : List Jvm.Cond) (o0_ : Addr) (o1_ : Addr) (o2_ : Addr) (d0_ : UInt64) (d1_ : UInt64) (d2_ : UInt64) (d3_ : UInt64) (d4_ : UInt64) (d5_ : UInt64) (ko2_ : ClassId) (o3_ : Addr) (d6_ : UInt64) (d7_ : UInt64) (d8_ : UInt64) (d9_ : UInt64) (d10_ : UInt64) (d11_ : UInt64) (h0 : Heap) (n0 : Nat) (O0 : Old Z n0 h0) (P0 : Exa Z h0 o0_ "java/util/ArrayList") (P1 : Fld Z h0 o0_ "java/util/AbstractList" "modCount" "I" (.int (1 : Int32))) (P2 : Fld Z h0 o0_ "java/util/ArrayList" "elementData" "[Ljava/lang/Object;" (.ref o2_)) (P3 : Fld Z h0 o0_ "java/util/ArrayList" "size" "I" (.int (1 : Int32))) (P4 : Exa Z h0 o1_ cn2) (P5 : Fld Z h0 o1_ cn2 "n" "I" (.int (2 : Int32))) (P6 : Fld Z h0 o1_ cn2 "r" "D" (.double d0_)) (P7 : Fld Z h0 o1_ cn2 "rHat" "D" (.double d1_)) (P8 : Fld Z h0 o1_ cn2 "p" "D" (.double d2_)) (P9 : Fld Z h0 o1_ cn2 "accuracy" "D" (.double d3_)) (P10 : Fld Z h0 o1_ cn2 "share" "D" (.double d4_)) (P11 : Fld Z h0 o1_ cn2 "cp" "D" (.double d5_)) (P12 : Arv Z h0 o2_ ko2_ (.object "java/lang/Object") (10 : Int32) [(.ref o3_), .null, .null, .null, .null, .null, .null, .null, .null, .null] .null) (P13 : Exa Z h0 o2_ "[Ljava/lang/Object;") (P14 : Exa Z h0 o3_ cn2) (P15 : Fld Z h0 o3_ cn2 "n" "I" (.int (1 : Int32))) (P16 : Fld Z h0 o3_ cn2 "r" "D" (.double d6_)) (P17 : Fld Z h0 o3_ cn2 "rHat" "D" (.double d7_)) (P18 : Fld Z h0 o3_ cn2 "p" "D" (.double d8_)) (P19 : Fld Z h0 o3_ cn2 "accuracy" "D" (.double d9_)) (P20 : Fld Z h0 o3_ cn2 "share" "D" (.double d10_)) (P21 : Fld Z h0 o3_ cn2 "cp" "D" (.double d11_)) (P22 : n0 ≤ o0_) (P23 : o1_ ≠ o0_) (P24 : o2_ ≠ o0_) (P25 : o3_ ≠ o0_) (P26 : n0 ≤ o2_) :
    MetFree l (⟨"java/util/ArrayList", "add", "(Ljava/lang/Object;)Z"⟩ : MethodName) (head1 (Jvm.Cond.code (⟨"java/util/ArrayList", "add", "(Ljava/lang/Object;)Z"⟩ : MethodName) jdk_38_method_25_code 2 (some .boolean) :: ws) ({ frames := 1, cells := 0, slots := 0, locals := 15 } : Room)) (fun a U => a = #[(.ref o0_), (.ref o1_)] ∧ Z.Warmed39 U.vm ∧ U.heap = h0) (fun _ _ _ _ _ => True) (fun _ U o U' => ∃ v L, o = .returned v ∧ Qadd18 Z o0_ o1_ o2_ d0_ d1_ d2_ d3_ d4_ d5_ ko2_ o3_ d6_ d7_ d8_ d9_ d10_ d11_ h0 n0 v U'.heap L ∧ FrameEnd U o U' L ({ frames := 1, cells := 0, slots := 0, locals := 15 } : Room).cells ({ frames := 1, cells := 0, slots := 0, locals := 15 } : Room).slots) := by
  refine MetFree.of_bodySF (plainFor_of_name pn_5) hisR ?_
  intro p e s m args below meth c s₁ Bd hml0 hP hK
  obtain ⟨rfl, hZ, hh⟩ := hP
  have hx := Bd.exec
  have hby := Bd.bytes
  have hml : c.maxLocals = 2 := hml0
  have hown : s.vm.findClass "java/util/ArrayList" = some m.cls := findClass_of_methodNamed Bd.named
  have hnm := (name_of_methodNamed Bd.named Bd.method).1
  have X0 : Stand p l e ({ frames := 1, cells := 0, slots := 0, locals := 15 } : Room) s m #[(.ref o0_), (.ref o1_)] below meth c s₁ [] 0 0 := Stand.of_body Bd
  have e0 : s₁.heap = h0 := by rw [← hh, Bd.state]; rfl
  have N0 := Fr.nil n0
  obtain ⟨G, pre0, hG⟩ : ∃ G : State → Prop, (∀ t, own_S p e below m s₁ 0 #[lvR o0_, lvR o1_] [] t → G t) ∧ (∀ t, G t → Steps p.tables e below (s₁.setTop (entryFrame m #[(.ref o0_), (.ref o1_)] 2)) t) := ⟨fun t => Steps p.tables e below (s₁.setTop (entryFrame m #[(.ref o0_), (.ref o1_)] 2)) t, fun t k => castTop (efadd18 m o0_ o1_) k, fun _ k => k⟩
  have K0 : Keep h0 h0 [o0_, o2_] := Keep.refl _ _
  obtain ⟨T1, X1, e1, st1⟩ := getF X0 hx hZ hown (host := "") (Or.inl (own_w hw 126 rfl)) (Via.of (own_w hw 127 rfl)) e0 P1 (g := (mkF m 2 #[lvR o0_, lvR o1_] [(.ref o0_), (.ref o0_)])) rfl rfl (hb hby d14_2)
  obtain ⟨T2, h2, X2, e2, W2, st2⟩ := putF X1 hx hZ hown (host := "") (Or.inl (own_w hw 126 rfl)) (Via.of (own_w hw 127 rfl)) e1 P1 P0 (Or.inl (own_w hw 87 rfl)) (own_w hw 68 rfl) (ty := .int) (by decide) rfl rfl (g := (mkF m 7 #[lvR o0_, lvR o1_] [(.int (2 : Int32)), (.ref o0_)])) rfl rfl (hb hby d14_7)
  have N3 := Fr.snoc X2 N0 P22
  have f4 : Fld Z h2 o0_ "java/util/AbstractList" "modCount" "I" (.int (2 : Int32)) := P1.same W2
  have f5 : Fld Z h2 o0_ "java/util/ArrayList" "elementData" "[Ljava/lang/Object;" (.ref o2_) := P2.other W2 (Or.inr (slot_ne (Or.inl (own_w hw 90 rfl)) (Or.inl (own_w hw 87 rfl)) (by decide) (t := (.array (.object "java/lang/Object"))) (t' := .int) (by decide) (by decide)))
  obtain ⟨T6, X6, e6, st6⟩ := getF X2 hx hZ hown (host := "") (Or.inl (own_w hw 89 rfl)) Via.refl e2 f5 (g := (mkF m 13 #[lvR o0_, lvR o1_] [(.ref o0_), (.ref o1_), (.ref o0_)])) rfl rfl (hb hby d14_13)
  have f7 : Fld Z h2 o0_ "java/util/ArrayList" "size" "I" (.int (1 : Int32)) := P3.other W2 (Or.inr (slot_ne (Or.inl (own_w hw 129 rfl)) (Or.inl (own_w hw 87 rfl)) (by decide) (t := .int) (t' := .int) (by decide) (by decide)))
  obtain ⟨T8, X8, e8, st8⟩ := getF X6 hx hZ hown (host := "") (Or.inl (own_w hw 128 rfl)) Via.refl e6 f7 (g := (mkF m 17 #[lvR o0_, lvR o1_] [(.ref o0_), (.ref o2_), (.ref o1_), (.ref o0_)])) rfl rfl (hb hby d14_17)
  have f10 : Exa Z h2 o0_ "java/util/ArrayList" := P0.wr W2
  have f11 : Exa Z h2 o1_ cn2 := P4.wr W2
  have f12 : Fld Z h2 o1_ cn2 "n" "I" (.int (2 : Int32)) := P5.other W2 (Or.inl P23)
  have f13 : Fld Z h2 o1_ cn2 "r" "D" (.double d0_) := P6.other W2 (Or.inl P23)
  have f14 : Fld Z h2 o1_ cn2 "rHat" "D" (.double d1_) := P7.other W2 (Or.inl P23)
  have f15 : Fld Z h2 o1_ cn2 "p" "D" (.double d2_) := P8.other W2 (Or.inl P23)
  have f16 : Fld Z h2 o1_ cn2 "accuracy" "D" (.double d3_) := P9.other W2 (Or.inl P23)
  have f17 : Fld Z h2 o1_ cn2 "share" "D" (.double d4_) := P10.other W2 (Or.inl P23)
  have f18 : Fld Z h2 o1_ cn2 "cp" "D" (.double d5_) := P11.other W2 (Or.inl P23)
  have f19 : Arv Z h2 o2_ ko2_ (.object "java/lang/Object") (10 : Int32) [(.ref o3_), .null, .null, .null, .null, .null, .null, .null, .null, .null] .null := P12.other W2 P24
  have f20 : Exa Z h2 o2_ "[Ljava/lang/Object;" := P13.wr W2
  have f21 : Exa Z h2 o3_ cn2 := P14.wr W2
  have f22 : Fld Z h2 o3_ cn2 "n" "I" (.int (1 : Int32)) := P15.other W2 (Or.inl P25)
  have f23 : Fld Z h2 o3_ cn2 "r" "D" (.double d6_) := P16.other W2 (Or.inl P25)
  have f24 : Fld Z h2 o3_ cn2 "rHat" "D" (.double d7_) := P17.other W2 (Or.inl P25)
  have f25 : Fld Z h2 o3_ cn2 "p" "D" (.double d8_) := P18.other W2 (Or.inl P25)
  have f26 : Fld Z h2 o3_ cn2 "accuracy" "D" (.double d9_) := P19.other W2 (Or.inl P25)
  have f27 : Fld Z h2 o3_ cn2 "share" "D" (.double d10_) := P20.other W2 (Or.inl P25)
  have f28 : Fld Z h2 o3_ cn2 "cp" "D" (.double d11_) := P21.other W2 (Or.inl P25)
  have f29 : Old Z n0 h2 := O0.wr W2 P22
  obtain ⟨cq9, q9, q9'⟩ := f10.cell
  obtain ⟨_, _, ⟨T9, L9, k9, n9⟩, -, X9, ⟨Lc9, hQ9, l9, y9, z9⟩, st9⟩ := X8.privateBack hx (y := mn4) hown (mvT hZ (own_w hw 130 rfl)) (mvT hZ (own_w hw 131 rfl)) (mvT hZ (own_w hw 133 rfl)) (Cond.privateMethod_at (mvP hZ (own_w hw 132 rfl) (args := #[]))) (mvT hZ (own_w hw 134 rfl)) (by decide) (backOf (W := 0) (rmadd19 l Z a0 hw [] o0_ o1_ o2_ d0_ d1_ d2_ d3_ d4_ d5_ ko2_ o3_ d6_ d7_ d8_ d9_ d10_ d11_ h2 n0 f29 f10 f4 f5 f7 f11 f12 f13 f14 f15 f16 f17 f18 f19 f20 f21 f22 f23 f24 f25 f26 f27 f28 P26 (Ne.symm P24) P22) hZ (own_w hw 134 rfl) (own_w hw 69 rfl) (by decide) (by decide)) (g := (mkF m 20 #[lvR o0_, lvR o1_] [(.int (1 : Int32)), (.ref o2_), (.ref o1_), (.ref o0_)])) rfl (by rw [hml]; rfl) (Steps.refl _) (a := o0_) (by rw [e8]; exact q9) q9' (argsL := [(.ref o1_), (.ref o2_), (.int (1 : Int32))]) (rest := []) (lenOf pd_10 rfl) rfl (by show 2 * 0 + _ ≤ _; exact Nat.le_of_eq rfl) (hb hby d14_20) (fun _ _ => ⟨rfl, e8, (by decide : 0 + 0 ≤ _), (by decide : 0 + 0 ≤ _)⟩)
  dsimp only [Pt.U, Pt.locs, Pt.cells, Pt.slots] at X9 l9 y9 z9 st9 hQ9
  subst l9 y9 z9
  obtain ⟨h9, e9⟩ : ∃ z, T9.heap = z := ⟨_, rfl⟩
  rw [e9] at hQ9
  obtain ⟨rfl, N9q, K9, g9_0, g9_1, g9_2, g9_3, g9_4, g9_5⟩ := hQ9
  have N30 := Fr.app N3 N9q
  have pre31 : ∀ t, own_S p e below m T9 24 #[lvR o0_, lvR o1_] [(.int (1 : Int32))] t → G t := by
    intro t kt
    refine pre0 t ?_
    show own_S p e below m s₁ 0 #[lvR o0_, lvR o1_] [] _
    refine XS.aloadN X0.here hx rfl (hb hby d14_0) rfl rfl ?_
    refine XS.dup X0.here hx rfl (hb hby d14_1) rfl rfl ?_
    show own_S p e below m s₁ 2 #[lvR o0_, lvR o1_] [(.ref o0_), (.ref o0_)] _
    refine st1 _ ?_
    refine XS.iconst X1.here hx rfl (hb hby d14_5) ?_
    refine XS.iadd X1.here hx rfl (hb hby d14_6) rfl ?_
    show own_S p e below m T1 7 #[lvR o0_, lvR o1_] [(.int (2 : Int32)), (.ref o0_)] _
    refine st2 _ ?_
    refine XS.aloadN X2.here hx rfl (hb hby d14_10) rfl rfl ?_
    refine XS.aloadN X2.here hx rfl (hb hby d14_11) rfl rfl ?_
    refine XS.aloadN X2.here hx rfl (hb hby d14_12) rfl rfl ?_
    show own_S p e below m T2 13 #[lvR o0_, lvR o1_] [(.ref o0_), (.ref o1_), (.ref o0_)] _
    refine st6 _ ?_
    refine XS.aloadN X6.here hx rfl (hb hby d14_16) rfl rfl ?_
    show own_S p e below m T6 17 #[lvR o0_, lvR o1_] [(.ref o0_), (.ref o2_), (.ref o1_), (.ref o0_)] _
    refine st8 _ ?_
    show own_S p e below m T8 20 #[lvR o0_, lvR o1_] [(.int (1 : Int32)), (.ref o2_), (.ref o1_), (.ref o0_)] _
    refine st9.trans ?_
    refine XS.iconst X9.here hx rfl (hb hby d14_23) ?_
    exact kt
  have f33 : Keep h0 h2 [o0_, o2_] := K0.wr W2 (Or.inl (List.mem_of_getElem? (i := 0) rfl))
  have f34 : Keep h0 h9 [o0_, o2_] := f33.trans K9 (allS (Or.inl (List.mem_of_getElem? (i := 1) rfl)) (allS (Or.inl (List.mem_of_getElem? (i := 0) rfl)) all0))
  obtain ⟨fs, hr, hrun, hended, hW, hsame⟩ := X9.leave (v := some (.int (1 : Int32))) (fun h => by rw [Bd.returns] at h; cases h)
  refine ⟨_, _, hG _ (pre31 _ (retN X9 hx (t := .boolean) Bd.returns (by simp) (hb hby d14_24) hr)), hrun, hended, _, _, rfl, ?_, ⟨_, rfl⟩, hW, hsame.mono (by decide) (by decide)⟩
  show Qadd18 Z o0_ o1_ o2_ d0_ d1_ d2_ d3_ d4_ d5_ ko2_ o3_ d6_ d7_ d8_ d9_ d10_ d11_ h0 n0 _ T9.heap _
  rw [e9]
  exact ⟨rfl, N30, f34, g9_0, g9_1, g9_2, g9_3, g9_4, g9_5⟩
theorem d8_134 : decode prog_41_method_5_code 134 = .ok (.aload_n 1, 1) := by decide +kernel
theorem d8_135 : decode prog_41_method_5_code 135 = .ok (.areturn, 1) := by decide +kernel
theorem efRows (m : MethodId) (o_ : Addr) : entryFrame m #[(.ref o_)] 3 = mkF m 0 #[lvR o_, .unset, .unset] [] := by first | (simp [entryFrame, mkF, argsToLocals, Value.category]; done) | rfl
def QRows (Z : State) (o_ : Addr) (qu : Int32) (rel : Int64) (aR : Addr) (kaR : ClassId) (rs0 : UInt64) (rs1 : UInt64) (aH : Addr) (kaH : ClassId) (rh0 : UInt64) (rh1 : UInt64) (aP : Addr) (kaP : ClassId) (ps0 : UInt64) (ps1 : UInt64) (aC : Addr) (kaC : ClassId) (cs0 : UInt64) (cs1 : UInt64) (aF : Addr) (kaF : ClassId) (fo0 : Int64) (fo1 : Int64) (aB : Addr) (kaB : ClassId) (be0 : Int64) (be1 : Int64) (w_DEFAULTCAPACITY_EMPTY_ELEMENTDATA : Addr) (w_EMPTY_ELEMENTDATA : Addr) (k_w_EMPTY_ELEMENTDATA : ClassId) (k_w_DEFAULTCAPACITY_EMPTY_ELEMENTDATA : ClassId) (h0 : Heap) (n0 : Nat) (v : Option Value) (h : Heap) (L : List Loc) : Prop := ∃ k8_2_3_9_98 : ClassId, ∃ nb2 : Addr, ∃ nnnnnb8_2_3_9_98 : Addr, ∃ nb15 : Addr, ∃ nb121 : Addr, v = some (.ref nb2) ∧ Fr n0 L ∧ Keep h0 h [] ∧ h0.size ≤ nb2 ∧ h0.size ≤ nnnnnb8_2_3_9_98 ∧ h0.size ≤ nb15 ∧ h0.size ≤ nb121 ∧ nb2 ≠ nnnnnb8_2_3_9_98 ∧ nb2 ≠ nb15 ∧ nb2 ≠ nb121 ∧ nnnnnb8_2_3_9_98 ≠ nb15 ∧ nnnnnb8_2_3_9_98 ≠ nb121 ∧ nb15 ≠ nb121 ∧ Exa Z h nb2 "java/util/ArrayList" ∧ Fld Z h nb2 "java/util/AbstractList" "modCount" "I" (.int (2 : Int32)) ∧ Fld Z h nb2 "java/util/ArrayList" "elementData" "[Ljava/lang/Object;" (.ref nnnnnb8_2_3_9_98) ∧ Fld Z h nb2 "java/util/ArrayList" "size" "I" (.int (2 : Int32)) ∧ Exa Z h nb15 cn2 ∧ Fld Z h nb15 cn2 "n" "I" (.int (1 : Int32)) ∧ Fld Z h nb15 cn2 "r" "D" (.double (FP.ddiv rs0 (FP.i2d qu))) ∧ Fld Z h nb15 cn2 "rHat" "D" (.double (FP.ddiv rh0 (FP.i2d qu))) ∧ Fld Z h nb15 cn2 "p" "D" (.double (FP.ddiv ps0 (FP.i2d qu))) ∧ Fld Z h nb15 cn2 "accuracy" "D" (.double (FP.ddiv (FP.l2d fo0) (FP.l2d be0))) ∧ Fld Z h nb15 cn2 "share" "D" (.double (FP.ddiv (FP.l2d fo0) (FP.l2d rel))) ∧ Fld Z h nb15 cn2 "cp" "D" (.double (FP.ddiv cs0 (FP.i2d qu))) ∧ Arv Z h nnnnnb8_2_3_9_98 k8_2_3_9_98 (.object "java/lang/Object") (10 : Int32) [(.ref nb15), (.ref nb121), .null, .null, .null, .null, .null, .null, .null, .null] .null ∧ Exa Z h nnnnnb8_2_3_9_98 "[Ljava/lang/Object;" ∧ Exa Z h nb121 cn2 ∧ Fld Z h nb121 cn2 "n" "I" (.int (2 : Int32)) ∧ Fld Z h nb121 cn2 "r" "D" (.double (FP.ddiv rs1 (FP.i2d qu))) ∧ Fld Z h nb121 cn2 "rHat" "D" (.double (FP.ddiv rh1 (FP.i2d qu))) ∧ Fld Z h nb121 cn2 "p" "D" (.double (FP.ddiv ps1 (FP.i2d qu))) ∧ Fld Z h nb121 cn2 "accuracy" "D" (.double (FP.ddiv (FP.l2d fo1) (FP.l2d be1))) ∧ Fld Z h nb121 cn2 "share" "D" (.double (FP.ddiv (FP.l2d fo1) (FP.l2d rel))) ∧ Fld Z h nb121 cn2 "cp" "D" (.double (FP.ddiv cs1 (FP.i2d qu)))
abbrev mn5 : MethodName := ⟨"com/example/shortlist/shortlist/SelectionMeasures", "rows", "()Ljava/util/List;"⟩
set_option maxRecDepth 65536 in
set_option maxHeartbeats 40000000 in
theorem rmRows (l : Launch) (Z : State) (a0 : Array Value) (hw : ∀ d ∈ tables_1, d.before a0 Z = true) (ws : List Jvm.Cond) (o_ : Addr) (qu : Int32) (rel : Int64) (aR : Addr) (kaR : ClassId) (rs0 : UInt64) (rs1 : UInt64) (aH : Addr) (kaH : ClassId) (rh0 : UInt64) (rh1 : UInt64) (aP : Addr) (kaP : ClassId) (ps0 : UInt64) (ps1 : UInt64) (aC : Addr) (kaC : ClassId) (cs0 : UInt64) (cs1 : UInt64) (aF : Addr) (kaF : ClassId) (fo0 : Int64) (fo1 : Int64) (aB : Addr) (kaB : ClassId) (be0 : Int64) (be1 : Int64) (w_DEFAULTCAPACITY_EMPTY_ELEMENTDATA : Addr) (w_EMPTY_ELEMENTDATA : Addr) (k_w_EMPTY_ELEMENTDATA : ClassId) (k_w_DEFAULTCAPACITY_EMPTY_ELEMENTDATA : ClassId) (h0 : Heap) (n0 : Nat) (O0 : Old Z n0 h0) (hq : ¬ (qu = (0 : Int32))) (nrs0 : Jvm.Free.Fl.NoNaN64 (FP.ddiv rs0 (FP.i2d qu))) (nrh0 : Jvm.Free.Fl.NoNaN64 (FP.ddiv rh0 (FP.i2d qu))) (nps0 : Jvm.Free.Fl.NoNaN64 (FP.ddiv ps0 (FP.i2d qu))) (ncs0 : Jvm.Free.Fl.NoNaN64 (FP.ddiv cs0 (FP.i2d qu))) (na0 : Jvm.Free.Fl.NoNaN64 (FP.ddiv (FP.l2d fo0) (FP.l2d be0))) (ns0 : Jvm.Free.Fl.NoNaN64 (FP.ddiv (FP.l2d fo0) (FP.l2d rel))) (nrs1 : Jvm.Free.Fl.NoNaN64 (FP.ddiv rs1 (FP.i2d qu))) (nrh1 : Jvm.Free.Fl.NoNaN64 (FP.ddiv rh1 (FP.i2d qu))) (nps1 : Jvm.Free.Fl.NoNaN64 (FP.ddiv ps1 (FP.i2d qu))) (ncs1 : Jvm.Free.Fl.NoNaN64 (FP.ddiv cs1 (FP.i2d qu))) (na1 : Jvm.Free.Fl.NoNaN64 (FP.ddiv (FP.l2d fo1) (FP.l2d be1))) (ns1 : Jvm.Free.Fl.NoNaN64 (FP.ddiv (FP.l2d fo1) (FP.l2d rel))) (P13 : Exa Z h0 o_ cn1) (P14 : Fld Z h0 o_ cn1 "collections" "I" (.int (2 : Int32))) (P15 : Fld Z h0 o_ cn1 "queries" "I" (.int qu)) (P16 : Fld Z h0 o_ cn1 "relevant" "J" (.long rel)) (P17 : Fld Z h0 o_ cn1 "rSums" "[D" (.ref aR)) (P18 : Arv Z h0 aR kaR .double (2 : Int32) [(.double rs0), (.double rs1)] (.double (0 : UInt64))) (P19 : Fld Z h0 o_ cn1 "rHatSums" "[D" (.ref aH)) (P20 : Arv Z h0 aH kaH .double (2 : Int32) [(.double rh0), (.double rh1)] (.double (0 : UInt64))) (P21 : Fld Z h0 o_ cn1 "pSums" "[D" (.ref aP)) (P22 : Arv Z h0 aP kaP .double (2 : Int32) [(.double ps0), (.double ps1)] (.double (0 : UInt64))) (P23 : Fld Z h0 o_ cn1 "cpSums" "[D" (.ref aC)) (P24 : Arv Z h0 aC kaC .double (2 : Int32) [(.double cs0), (.double cs1)] (.double (0 : UInt64))) (P25 : Fld Z h0 o_ cn1 "found" "[J" (.ref aF)) (P26 : Arv Z h0 aF kaF .long (2 : Int32) [(.long fo0), (.long fo1)] (.long (0 : Int64))) (P27 : Fld Z h0 o_ cn1 "best" "[J" (.ref aB)) (P28 : Arv Z h0 aB kaB .long (2 : Int32) [(.long be0), (.long be1)] (.long (0 : Int64))) (P29 : Sta Z Z.heap "java/util/ArrayList" "EMPTY_ELEMENTDATA" "[Ljava/lang/Object;" (.ref w_EMPTY_ELEMENTDATA)) (P30 : Exa Z Z.heap w_EMPTY_ELEMENTDATA "[Ljava/lang/Object;") (P31 : Sta Z Z.heap "java/util/ArrayList" "DEFAULTCAPACITY_EMPTY_ELEMENTDATA" "[Ljava/lang/Object;" (.ref w_DEFAULTCAPACITY_EMPTY_ELEMENTDATA)) (P32 : Exa Z Z.heap w_DEFAULTCAPACITY_EMPTY_ELEMENTDATA "[Ljava/lang/Object;") (P33 : Arv Z Z.heap w_EMPTY_ELEMENTDATA k_w_EMPTY_ELEMENTDATA (.object "java/lang/Object") (0 : Int32) [] .null) (P34 : Arv Z Z.heap w_DEFAULTCAPACITY_EMPTY_ELEMENTDATA k_w_DEFAULTCAPACITY_EMPTY_ELEMENTDATA (.object "java/lang/Object") (0 : Int32) [] .null) :
    MetFree l mn5 (head1 (Jvm.Cond.code mn5 prog_41_method_5_code 3 (some (.object "java/util/List")) :: ws) ({ frames := 5, cells := 4, slots := 27, locals := 69 } : Room)) (fun a U => a = #[(.ref o_)] ∧ Z.Warmed39 U.vm ∧ U.heap = h0) (fun _ _ _ _ _ => True) (fun _ U o U' => ∃ v L, o = .returned v ∧ QRows Z o_ qu rel aR kaR rs0 rs1 aH kaH rh0 rh1 aP kaP ps0 ps1 aC kaC cs0 cs1 aF kaF fo0 fo1 aB kaB be0 be1 w_DEFAULTCAPACITY_EMPTY_ELEMENTDATA w_EMPTY_ELEMENTDATA k_w_EMPTY_ELEMENTDATA k_w_DEFAULTCAPACITY_EMPTY_ELEMENTDATA h0 n0 v U'.heap L ∧ FrameEnd U o U' L ({ frames := 5, cells := 4, slots := 27, locals := 69 } : Room).cells ({ frames := 5, cells := 4, slots := 27, locals := 69 } : Room).slots) := by
  refine MetFree.of_bodySF (plainFor_of_name pn_2) hisR ?_
  intro p e s m args below meth c s₁ Bd hml0 hP hK
  obtain ⟨rfl, hZ, hh⟩ := hP
  have hx := Bd.exec
  have hby := Bd.bytes
  have hml : c.maxLocals = 3 := hml0
  have hown : s.vm.findClass "com/example/shortlist/shortlist/SelectionMeasures" = some m.cls := findClass_of_methodNamed Bd.named
  have hnm := (name_of_methodNamed Bd.named Bd.method).1
  have X0 : Stand p l e ({ frames := 5, cells := 4, slots := 27, locals := 69 } : Room) s m #[(.ref o_)] below meth c s₁ [] 0 0 := Stand.of_body Bd
  have e0 : s₁.heap = h0 := by rw [← hh, Bd.state]; rfl
  have N0 := Fr.nil n0
  obtain ⟨G, pre0, hG⟩ : ∃ G : State → Prop, (∀ t, own_S p e below m s₁ 0 #[lvR o_, .unset, .unset] [] t → G t) ∧ (∀ t, G t → Steps p.tables e below (s₁.setTop (entryFrame m #[(.ref o_)] 3)) t) := ⟨fun t => Steps p.tables e below (s₁.setTop (entryFrame m #[(.ref o_)] 3)) t, fun t k => castTop (efRows m o_) k, fun _ k => k⟩
  have K0 : Keep h0 h0 [] := Keep.refl _ _
  obtain ⟨T1, X1, e1, st1⟩ := getF X0 hx hZ hown (host := "") (Or.inl (own_w hw 58 rfl)) Via.refl e0 P15 (g := (mkF m 1 #[lvR o_, .unset, .unset] [(.ref o_)])) rfl rfl (hb hby d8_1)
  obtain ⟨T2, h2, X2, e2, E2, A2, D2, -, st2⟩ := newO X1 hx hZ hown (own_w hw 67 rfl) (own_w hw 68 rfl) (own_w hw 69 rfl) e1 (g := (mkF m 17 #[lvR o_, .unset, .unset] [])) rfl (hb hby d8_17) (by decide) (by decide)
  obtain ⟨b2, g2⟩ : ∃ z, z = h0.size := ⟨_, rfl⟩
  rw [← g2] at A2 D2 st2
  have ge3 : n0 ≤ b2 := Nat.le_trans (Nat.le_trans (Nat.le_of_eq O0.1.symm) O0.2.1) (Nat.le_of_eq g2.symm)
  have sz4 : h0.size ≤ b2 := Nat.le_trans K0.1 (Nat.le_of_eq g2.symm)
  have f5 : Fld Z h2 b2 "java/util/AbstractList" "modCount" "I" (.int (0 : Int32)) := D2 (Or.inl (own_w hw 87 rfl)) (ty := .int) (by decide)
  have f6 : Fld Z h2 b2 "java/util/ArrayList" "elementData" "[Ljava/lang/Object;" .null := D2 (Or.inl (own_w hw 90 rfl)) (ty := (.array (.object "java/lang/Object"))) (by decide)
  have f7 : Fld Z h2 b2 "java/util/ArrayList" "size" "I" (.int (0 : Int32)) := D2 (Or.inl (own_w hw 129 rfl)) (ty := .int) (by decide)
  have f9 : Old Z n0 h2 := O0.ext E2
  obtain ⟨_, _, ⟨T8, L8, k8, n8⟩, -, X8, ⟨Lc8, hQ8, l8, y8, z8⟩, st8⟩ := X2.specialBack hx (y := (⟨"java/util/ArrayList", "<init>", "()V"⟩ : MethodName)) rfl hown (mvT hZ (own_w hw 70 rfl)) (mvT hZ (own_w hw 71 rfl)) (mvT hZ (own_w hw 72 rfl)) (by decide) (backOf (W := 1) (rminit1 l Z a0 hw [] b2 w_DEFAULTCAPACITY_EMPTY_ELEMENTDATA k_w_DEFAULTCAPACITY_EMPTY_ELEMENTDATA h2 n0 f9 A2 f5 f6 f7 ge3 P32 P34 P31) hZ (own_w hw 72 rfl) (own_w hw 69 rfl) (by decide) (by decide)) (g := (mkF m 21 #[lvR o_, .unset, .unset] [(.ref b2), (.ref b2)])) rfl (by rw [hml]; rfl) (Steps.refl _) (a := b2) (argsL := []) (rest := [(.ref b2)]) (lenOf pd_5 rfl) rfl (by show 2 * 0 + _ ≤ _; exact Nat.le_of_eq rfl) (hb hby d8_21) (fun _ _ => ⟨rfl, e2, (by decide : 1 + 0 ≤ _), (by decide : 3 + 0 ≤ _)⟩)
  dsimp only [Pt.U, Pt.locs, Pt.cells, Pt.slots] at X8 l8 y8 z8 st8 hQ8
  subst l8 y8 z8
  obtain ⟨h8, e8⟩ : ∃ z, T8.heap = z := ⟨_, rfl⟩
  rw [e8] at hQ8
  obtain ⟨rfl, N8q, K8, g8_0, g8_1, g8_2, g8_3⟩ := hQ8
  have N10 := Fr.app N0 N8q
  have f11 : Fld Z h2 o_ cn1 "collections" "I" (.int (2 : Int32)) := P14.ext E2
  have ne13 : o_ ≠ b2 := Nat.ne_of_lt (Nat.lt_of_lt_of_le P13.lt (Nat.le_of_eq g2.symm))
  have f12 : Fld Z h8 o_ cn1 "collections" "I" (.int (2 : Int32)) := f11.keep K8 (ninS ne13 nin0)
  obtain ⟨T14, X14, e14, st14⟩ := getF X8 hx hZ hown (host := "") (Or.inl (own_w hw 11 rfl)) Via.refl e8 f12 (g := (mkF m 29 #[lvR o_, lvR b2, lvI (0 : Int32)] [(.ref o_), (.int (0 : Int32))])) rfl rfl (hb hby d8_29)
  obtain ⟨T15, h15, X15, e15, E15, A15, D15, -, st15⟩ := newO X14 hx hZ hown (own_w hw 91 rfl) (own_w hw 92 rfl) (own_w hw 93 rfl) e14 (g := (mkF m 36 #[lvR o_, lvR b2, lvI (0 : Int32)] [(.ref b2)])) rfl (hb hby d8_36) (by decide) (by decide)
  obtain ⟨b15, g15⟩ : ∃ z, z = h8.size := ⟨_, rfl⟩
  rw [← g15] at A15 D15 st15
  have f16 : Old Z n0 h8 := f9.keep K8 (allS (ge3) all0)
  have ge17 : n0 ≤ b15 := Nat.le_trans (Nat.le_trans (Nat.le_of_eq f16.1.symm) f16.2.1) (Nat.le_of_eq g15.symm)
  have f18 : Keep h0 h2 [] := K0.ext E2
  have f19 : Keep h0 h8 [] := f18.trans K8 (allS (Or.inr sz4) all0)
  have sz20 : h0.size ≤ b15 := Nat.le_trans f19.1 (Nat.le_of_eq g15.symm)
  have f21 : Fld Z h15 b15 cn2 "n" "I" (.int (0 : Int32)) := D15 (Or.inr (own_w hw 104 rfl)) (ty := .int) (by decide)
  have f22 : Fld Z h15 b15 cn2 "r" "D" (.double (0 : UInt64)) := D15 (Or.inr (own_w hw 106 rfl)) (ty := .double) (by decide)
  have f23 : Fld Z h15 b15 cn2 "rHat" "D" (.double (0 : UInt64)) := D15 (Or.inr (own_w hw 108 rfl)) (ty := .double) (by decide)
  have f24 : Fld Z h15 b15 cn2 "p" "D" (.double (0 : UInt64)) := D15 (Or.inr (own_w hw 110 rfl)) (ty := .double) (by decide)
  have f25 : Fld Z h15 b15 cn2 "accuracy" "D" (.double (0 : UInt64)) := D15 (Or.inr (own_w hw 112 rfl)) (ty := .double) (by decide)
  have f26 : Fld Z h15 b15 cn2 "share" "D" (.double (0 : UInt64)) := D15 (Or.inr (own_w hw 114 rfl)) (ty := .double) (by decide)
  have f27 : Fld Z h15 b15 cn2 "cp" "D" (.double (0 : UInt64)) := D15 (Or.inr (own_w hw 116 rfl)) (ty := .double) (by decide)
  have f28 : Fld Z h2 o_ cn1 "rSums" "[D" (.ref aR) := P17.ext E2
  have f29 : Fld Z h8 o_ cn1 "rSums" "[D" (.ref aR) := f28.keep K8 (ninS ne13 nin0)
  have f30 : Fld Z h15 o_ cn1 "rSums" "[D" (.ref aR) := f29.ext E15
  obtain ⟨T31, X31, e31, st31⟩ := getF X15 hx hZ hown (host := "") (Or.inl (own_w hw 14 rfl)) Via.refl e15 f30 (g := (mkF m 44 #[lvR o_, lvR b2, lvI (0 : Int32)] [(.ref o_), (.int (1 : Int32)), (.ref b15), (.ref b15), (.ref b2)])) rfl rfl (hb hby d8_44)
  have f32 : Arv Z h2 aR kaR .double (2 : Int32) [(.double rs0), (.double rs1)] (.double (0 : UInt64)) := P18.ext E2
  have ne34 : aR ≠ b2 := Nat.ne_of_lt (Nat.lt_of_lt_of_le P18.lt (Nat.le_of_eq g2.symm))
  have f33 : Arv Z h8 aR kaR .double (2 : Int32) [(.double rs0), (.double rs1)] (.double (0 : UInt64)) := f32.keep K8 (ninS ne34 nin0)
  have f35 : Arv Z h15 aR kaR .double (2 : Int32) [(.double rs0), (.double rs1)] (.double (0 : UInt64)) := f33.ext E15
  obtain ⟨c36, r36, q36, s36, z36, y36, G36⟩ := id f35
  have hin36 : ¬ ((0 : Int32) < 0 ∨ c36.slots.size ≤ ((0 : Int32)).toNatClampNeg) := inb_of s36 ⟨by decide, by decide⟩
  have hat36 : c36.slots[((0 : Int32)).toNatClampNeg]? = some (.double rs0) := Has.at y36 hin36 rfl
  have f37 : Fld Z h2 o_ cn1 "queries" "I" (.int qu) := P15.ext E2
  have f38 : Fld Z h8 o_ cn1 "queries" "I" (.int qu) := f37.keep K8 (ninS ne13 nin0)
  have f39 : Fld Z h15 o_ cn1 "queries" "I" (.int qu) := f38.ext E15
  obtain ⟨T40, X40, e40, st40⟩ := getF X31 hx hZ hown (host := "") (Or.inl (own_w hw 58 rfl)) Via.refl e31 f39 (g := (mkF m 50 #[lvR o_, lvR b2, lvI (0 : Int32)] [(.ref o_), (.double rs0), (.int (1 : Int32)), (.ref b15), (.ref b15), (.ref b2)])) rfl rfl (hb hby d8_50)
  have f41 : Fld Z h2 o_ cn1 "rHatSums" "[D" (.ref aH) := P19.ext E2
  have f42 : Fld Z h8 o_ cn1 "rHatSums" "[D" (.ref aH) := f41.keep K8 (ninS ne13 nin0)
  have f43 : Fld Z h15 o_ cn1 "rHatSums" "[D" (.ref aH) := f42.ext E15
  obtain ⟨T44, X44, e44, st44⟩ := getF X40 hx hZ hown (host := "") (Or.inl (own_w hw 16 rfl)) Via.refl e40 f43 (g := (mkF m 56 #[lvR o_, lvR b2, lvI (0 : Int32)] [(.ref o_), (.double (FP.ddiv rs0 (FP.i2d qu))), (.int (1 : Int32)), (.ref b15), (.ref b15), (.ref b2)])) rfl rfl (hb hby d8_56)
  have f45 : Arv Z h2 aH kaH .double (2 : Int32) [(.double rh0), (.double rh1)] (.double (0 : UInt64)) := P20.ext E2
  have ne47 : aH ≠ b2 := Nat.ne_of_lt (Nat.lt_of_lt_of_le P20.lt (Nat.le_of_eq g2.symm))
  have f46 : Arv Z h8 aH kaH .double (2 : Int32) [(.double rh0), (.double rh1)] (.double (0 : UInt64)) := f45.keep K8 (ninS ne47 nin0)
  have f48 : Arv Z h15 aH kaH .double (2 : Int32) [(.double rh0), (.double rh1)] (.double (0 : UInt64)) := f46.ext E15
  obtain ⟨c49, r49, q49, s49, z49, y49, G49⟩ := id f48
  have hin49 : ¬ ((0 : Int32) < 0 ∨ c49.slots.size ≤ ((0 : Int32)).toNatClampNeg) := inb_of s49 ⟨by decide, by decide⟩
  have hat49 : c49.slots[((0 : Int32)).toNatClampNeg]? = some (.double rh0) := Has.at y49 hin49 rfl
  obtain ⟨T50, X50, e50, st50⟩ := getF X44 hx hZ hown (host := "") (Or.inl (own_w hw 58 rfl)) Via.refl e44 f39 (g := (mkF m 62 #[lvR o_, lvR b2, lvI (0 : Int32)] [(.ref o_), (.double rh0), (.double (FP.ddiv rs0 (FP.i2d qu))), (.int (1 : Int32)), (.ref b15), (.ref b15), (.ref b2)])) rfl rfl (hb hby d8_62)
  have f51 : Fld Z h2 o_ cn1 "pSums" "[D" (.ref aP) := P21.ext E2
  have f52 : Fld Z h8 o_ cn1 "pSums" "[D" (.ref aP) := f51.keep K8 (ninS ne13 nin0)
  have f53 : Fld Z h15 o_ cn1 "pSums" "[D" (.ref aP) := f52.ext E15
  obtain ⟨T54, X54, e54, st54⟩ := getF X50 hx hZ hown (host := "") (Or.inl (own_w hw 18 rfl)) Via.refl e50 f53 (g := (mkF m 68 #[lvR o_, lvR b2, lvI (0 : Int32)] [(.ref o_), (.double (FP.ddiv rh0 (FP.i2d qu))), (.double (FP.ddiv rs0 (FP.i2d qu))), (.int (1 : Int32)), (.ref b15), (.ref b15), (.ref b2)])) rfl rfl (hb hby d8_68)
  have f55 : Arv Z h2 aP kaP .double (2 : Int32) [(.double ps0), (.double ps1)] (.double (0 : UInt64)) := P22.ext E2
  have ne57 : aP ≠ b2 := Nat.ne_of_lt (Nat.lt_of_lt_of_le P22.lt (Nat.le_of_eq g2.symm))
  have f56 : Arv Z h8 aP kaP .double (2 : Int32) [(.double ps0), (.double ps1)] (.double (0 : UInt64)) := f55.keep K8 (ninS ne57 nin0)
  have f58 : Arv Z h15 aP kaP .double (2 : Int32) [(.double ps0), (.double ps1)] (.double (0 : UInt64)) := f56.ext E15
  obtain ⟨c59, r59, q59, s59, z59, y59, G59⟩ := id f58
  have hin59 : ¬ ((0 : Int32) < 0 ∨ c59.slots.size ≤ ((0 : Int32)).toNatClampNeg) := inb_of s59 ⟨by decide, by decide⟩
  have hat59 : c59.slots[((0 : Int32)).toNatClampNeg]? = some (.double ps0) := Has.at y59 hin59 rfl
  obtain ⟨T60, X60, e60, st60⟩ := getF X54 hx hZ hown (host := "") (Or.inl (own_w hw 58 rfl)) Via.refl e54 f39 (g := (mkF m 74 #[lvR o_, lvR b2, lvI (0 : Int32)] [(.ref o_), (.double ps0), (.double (FP.ddiv rh0 (FP.i2d qu))), (.double (FP.ddiv rs0 (FP.i2d qu))), (.int (1 : Int32)), (.ref b15), (.ref b15), (.ref b2)])) rfl rfl (hb hby d8_74)
  have f61 : Fld Z h2 o_ cn1 "found" "[J" (.ref aF) := P25.ext E2
  have f62 : Fld Z h8 o_ cn1 "found" "[J" (.ref aF) := f61.keep K8 (ninS ne13 nin0)
  have f63 : Fld Z h15 o_ cn1 "found" "[J" (.ref aF) := f62.ext E15
  obtain ⟨T64, X64, e64, st64⟩ := getF X60 hx hZ hown (host := "") (Or.inl (own_w hw 23 rfl)) Via.refl e60 f63 (g := (mkF m 80 #[lvR o_, lvR b2, lvI (0 : Int32)] [(.ref o_), (.double (FP.ddiv ps0 (FP.i2d qu))), (.double (FP.ddiv rh0 (FP.i2d qu))), (.double (FP.ddiv rs0 (FP.i2d qu))), (.int (1 : Int32)), (.ref b15), (.ref b15), (.ref b2)])) rfl rfl (hb hby d8_80)
  have f65 : Arv Z h2 aF kaF .long (2 : Int32) [(.long fo0), (.long fo1)] (.long (0 : Int64)) := P26.ext E2
  have ne67 : aF ≠ b2 := Nat.ne_of_lt (Nat.lt_of_lt_of_le P26.lt (Nat.le_of_eq g2.symm))
  have f66 : Arv Z h8 aF kaF .long (2 : Int32) [(.long fo0), (.long fo1)] (.long (0 : Int64)) := f65.keep K8 (ninS ne67 nin0)
  have f68 : Arv Z h15 aF kaF .long (2 : Int32) [(.long fo0), (.long fo1)] (.long (0 : Int64)) := f66.ext E15
  obtain ⟨c69, r69, q69, s69, z69, y69, G69⟩ := id f68
  have hin69 : ¬ ((0 : Int32) < 0 ∨ c69.slots.size ≤ ((0 : Int32)).toNatClampNeg) := inb_of s69 ⟨by decide, by decide⟩
  have hat69 : c69.slots[((0 : Int32)).toNatClampNeg]? = some (.long fo0) := Has.at y69 hin69 rfl
  have f70 : Fld Z h2 o_ cn1 "best" "[J" (.ref aB) := P27.ext E2
  have f71 : Fld Z h8 o_ cn1 "best" "[J" (.ref aB) := f70.keep K8 (ninS ne13 nin0)
  have f72 : Fld Z h15 o_ cn1 "best" "[J" (.ref aB) := f71.ext E15
  obtain ⟨T73, X73, e73, st73⟩ := getF X64 hx hZ hown (host := "") (Or.inl (own_w hw 25 rfl)) Via.refl e64 f72 (g := (mkF m 87 #[lvR o_, lvR b2, lvI (0 : Int32)] [(.ref o_), (.double (FP.l2d fo0)), (.double (FP.ddiv ps0 (FP.i2d qu))), (.double (FP.ddiv rh0 (FP.i2d qu))), (.double (FP.ddiv rs0 (FP.i2d qu))), (.int (1 : Int32)), (.ref b15), (.ref b15), (.ref b2)])) rfl rfl (hb hby d8_87)
  have f74 : Arv Z h2 aB kaB .long (2 : Int32) [(.long be0), (.long be1)] (.long (0 : Int64)) := P28.ext E2
  have ne76 : aB ≠ b2 := Nat.ne_of_lt (Nat.lt_of_lt_of_le P28.lt (Nat.le_of_eq g2.symm))
  have f75 : Arv Z h8 aB kaB .long (2 : Int32) [(.long be0), (.long be1)] (.long (0 : Int64)) := f74.keep K8 (ninS ne76 nin0)
  have f77 : Arv Z h15 aB kaB .long (2 : Int32) [(.long be0), (.long be1)] (.long (0 : Int64)) := f75.ext E15
  obtain ⟨c78, r78, q78, s78, z78, y78, G78⟩ := id f77
  have hin78 : ¬ ((0 : Int32) < 0 ∨ c78.slots.size ≤ ((0 : Int32)).toNatClampNeg) := inb_of s78 ⟨by decide, by decide⟩
  have hat78 : c78.slots[((0 : Int32)).toNatClampNeg]? = some (.long be0) := Has.at y78 hin78 rfl
  obtain ⟨T79, X79, e79, st79⟩ := getF X73 hx hZ hown (host := "") (Or.inl (own_w hw 23 rfl)) Via.refl e73 f63 (g := (mkF m 95 #[lvR o_, lvR b2, lvI (0 : Int32)] [(.ref o_), (.double (FP.ddiv (FP.l2d fo0) (FP.l2d be0))), (.double (FP.ddiv ps0 (FP.i2d qu))), (.double (FP.ddiv rh0 (FP.i2d qu))), (.double (FP.ddiv rs0 (FP.i2d qu))), (.int (1 : Int32)), (.ref b15), (.ref b15), (.ref b2)])) rfl rfl (hb hby d8_95)
  obtain ⟨c80, r80, q80, s80, z80, y80, G80⟩ := id f68
  have hin80 : ¬ ((0 : Int32) < 0 ∨ c80.slots.size ≤ ((0 : Int32)).toNatClampNeg) := inb_of s80 ⟨by decide, by decide⟩
  have hat80 : c80.slots[((0 : Int32)).toNatClampNeg]? = some (.long fo0) := Has.at y80 hin80 rfl
  have f81 : Fld Z h2 o_ cn1 "relevant" "J" (.long rel) := P16.ext E2
  have f82 : Fld Z h8 o_ cn1 "relevant" "J" (.long rel) := f81.keep K8 (ninS ne13 nin0)
  have f83 : Fld Z h15 o_ cn1 "relevant" "J" (.long rel) := f82.ext E15
  obtain ⟨T84, X84, e84, st84⟩ := getF X79 hx hZ hown (host := "") (Or.inl (own_w hw 60 rfl)) Via.refl e79 f83 (g := (mkF m 102 #[lvR o_, lvR b2, lvI (0 : Int32)] [(.ref o_), (.double (FP.l2d fo0)), (.double (FP.ddiv (FP.l2d fo0) (FP.l2d be0))), (.double (FP.ddiv ps0 (FP.i2d qu))), (.double (FP.ddiv rh0 (FP.i2d qu))), (.double (FP.ddiv rs0 (FP.i2d qu))), (.int (1 : Int32)), (.ref b15), (.ref b15), (.ref b2)])) rfl rfl (hb hby d8_102)
  have f85 : Fld Z h2 o_ cn1 "cpSums" "[D" (.ref aC) := P23.ext E2
  have f86 : Fld Z h8 o_ cn1 "cpSums" "[D" (.ref aC) := f85.keep K8 (ninS ne13 nin0)
  have f87 : Fld Z h15 o_ cn1 "cpSums" "[D" (.ref aC) := f86.ext E15
  obtain ⟨T88, X88, e88, st88⟩ := getF X84 hx hZ hown (host := "") (Or.inl (own_w hw 20 rfl)) Via.refl e84 f87 (g := (mkF m 108 #[lvR o_, lvR b2, lvI (0 : Int32)] [(.ref o_), (.double (FP.ddiv (FP.l2d fo0) (FP.l2d rel))), (.double (FP.ddiv (FP.l2d fo0) (FP.l2d be0))), (.double (FP.ddiv ps0 (FP.i2d qu))), (.double (FP.ddiv rh0 (FP.i2d qu))), (.double (FP.ddiv rs0 (FP.i2d qu))), (.int (1 : Int32)), (.ref b15), (.ref b15), (.ref b2)])) rfl rfl (hb hby d8_108)
  have f89 : Arv Z h2 aC kaC .double (2 : Int32) [(.double cs0), (.double cs1)] (.double (0 : UInt64)) := P24.ext E2
  have ne91 : aC ≠ b2 := Nat.ne_of_lt (Nat.lt_of_lt_of_le P24.lt (Nat.le_of_eq g2.symm))
  have f90 : Arv Z h8 aC kaC .double (2 : Int32) [(.double cs0), (.double cs1)] (.double (0 : UInt64)) := f89.keep K8 (ninS ne91 nin0)
  have f92 : Arv Z h15 aC kaC .double (2 : Int32) [(.double cs0), (.double cs1)] (.double (0 : UInt64)) := f90.ext E15
  obtain ⟨c93, r93, q93, s93, z93, y93, G93⟩ := id f92
  have hin93 : ¬ ((0 : Int32) < 0 ∨ c93.slots.size ≤ ((0 : Int32)).toNatClampNeg) := inb_of s93 ⟨by decide, by decide⟩
  have hat93 : c93.slots[((0 : Int32)).toNatClampNeg]? = some (.double cs0) := Has.at y93 hin93 rfl
  obtain ⟨T94, X94, e94, st94⟩ := getF X88 hx hZ hown (host := "") (Or.inl (own_w hw 58 rfl)) Via.refl e88 f39 (g := (mkF m 114 #[lvR o_, lvR b2, lvI (0 : Int32)] [(.ref o_), (.double cs0), (.double (FP.ddiv (FP.l2d fo0) (FP.l2d rel))), (.double (FP.ddiv (FP.l2d fo0) (FP.l2d be0))), (.double (FP.ddiv ps0 (FP.i2d qu))), (.double (FP.ddiv rh0 (FP.i2d qu))), (.double (FP.ddiv rs0 (FP.i2d qu))), (.int (1 : Int32)), (.ref b15), (.ref b15), (.ref b2)])) rfl rfl (hb hby d8_114)
  have f96 : Old Z n0 h15 := f16.ext E15
  obtain ⟨_, _, ⟨T95, L95, k95, n95⟩, -, X95, ⟨Lc95, hQ95, l95, y95, z95⟩, st95⟩ := X94.specialBack hx (y := mn3) rfl hown (mvT hZ (own_w hw 94 rfl)) (mvT hZ (own_w hw 95 rfl)) (mvT hZ (own_w hw 96 rfl)) (by decide) (backOf (W := 2) (rminit4 l Z a0 hw [] b15 (FP.ddiv rs0 (FP.i2d qu)) (FP.ddiv rh0 (FP.i2d qu)) (FP.ddiv ps0 (FP.i2d qu)) (FP.ddiv (FP.l2d fo0) (FP.l2d be0)) (FP.ddiv (FP.l2d fo0) (FP.l2d rel)) (FP.ddiv cs0 (FP.i2d qu)) h15 n0 f96 A15 f21 f22 f23 f24 f25 f26 f27 ge17) hZ (own_w hw 96 rfl) (own_w hw 93 rfl) (by decide) (by decide)) (g := (mkF m 119 #[lvR o_, lvR b2, lvI (0 : Int32)] [(.double (FP.ddiv cs0 (FP.i2d qu))), (.double (FP.ddiv (FP.l2d fo0) (FP.l2d rel))), (.double (FP.ddiv (FP.l2d fo0) (FP.l2d be0))), (.double (FP.ddiv ps0 (FP.i2d qu))), (.double (FP.ddiv rh0 (FP.i2d qu))), (.double (FP.ddiv rs0 (FP.i2d qu))), (.int (1 : Int32)), (.ref b15), (.ref b15), (.ref b2)])) rfl (by rw [hml]; rfl) (Steps.refl _) (a := b15) (argsL := [(.int (1 : Int32)), (.double (FP.ddiv rs0 (FP.i2d qu))), (.double (FP.ddiv rh0 (FP.i2d qu))), (.double (FP.ddiv ps0 (FP.i2d qu))), (.double (FP.ddiv (FP.l2d fo0) (FP.l2d be0))), (.double (FP.ddiv (FP.l2d fo0) (FP.l2d rel))), (.double (FP.ddiv cs0 (FP.i2d qu)))]) (rest := [(.ref b15), (.ref b2)]) (lenOf pd_6 rfl) rfl (by show 2 * 0 + _ ≤ _; exact Nat.le_of_eq rfl) (hb hby d8_119) (fun _ _ => ⟨rfl, e94, (by decide : 2 + 0 ≤ _), (by decide : 10 + 0 ≤ _)⟩)
  dsimp only [Pt.U, Pt.locs, Pt.cells, Pt.slots] at X95 l95 y95 z95 st95 hQ95
  subst l95 y95 z95
  obtain ⟨h95, e95⟩ : ∃ z, T95.heap = z := ⟨_, rfl⟩
  rw [e95] at hQ95
  obtain ⟨rfl, N95q, K95, g95_0, g95_1, g95_2, g95_3, g95_4, g95_5, g95_6, g95_7⟩ := hQ95
  have N97 := Fr.app N10 N95q
  have f99 : Exa Z h15 b2 "java/util/ArrayList" := g8_0.ext E15
  have f100 : Exa Z h95 b2 "java/util/ArrayList" := f99.keep K95
  have f101 : Fld Z h15 b2 "java/util/AbstractList" "modCount" "I" (.int (0 : Int32)) := g8_1.ext E15
  have ne103 : b2 ≠ b15 := Nat.ne_of_lt (Nat.lt_of_lt_of_le g8_0.lt (Nat.le_of_eq g15.symm))
  have f102 : Fld Z h95 b2 "java/util/AbstractList" "modCount" "I" (.int (0 : Int32)) := f101.keep K95 (ninS ne103 nin0)
  have f104 : Fld Z h15 b2 "java/util/ArrayList" "elementData" "[Ljava/lang/Object;" (.ref w_DEFAULTCAPACITY_EMPTY_ELEMENTDATA) := g8_2.ext E15
  have f105 : Fld Z h95 b2 "java/util/ArrayList" "elementData" "[Ljava/lang/Object;" (.ref w_DEFAULTCAPACITY_EMPTY_ELEMENTDATA) := f104.keep K95 (ninS ne103 nin0)
  have f106 : Fld Z h15 b2 "java/util/ArrayList" "size" "I" (.int (0 : Int32)) := g8_3.ext E15
  have f107 : Fld Z h95 b2 "java/util/ArrayList" "size" "I" (.int (0 : Int32)) := f106.keep K95 (ninS ne103 nin0)
  have f108 : Old Z n0 h95 := f96.keep K95 (allS (ge17) all0)
  obtain ⟨cq98, kq98, q98a, q98b, q98c⟩ := isOf hZ e95 f100
  obtain ⟨_, _, ⟨T98, L98, k98, n98⟩, -, X98, ⟨Lc98, hQ98, l98, y98, z98⟩, st98⟩ := X95.interfaceBack hx (xi := (⟨"java/util/List", "add", "(Ljava/lang/Object;)Z"⟩ : MethodName)) (y := (⟨"java/util/ArrayList", "add", "(Ljava/lang/Object;)Z"⟩ : MethodName)) hown (mvT hZ (own_w hw 117 rfl)) (mvT hZ (own_w hw 118 rfl)) (mvT hZ (own_w hw 119 rfl)) (mvT hZ (own_w hw 120 rfl)) (mvT hZ (own_w hw 121 rfl)) (mvT hZ (own_w hw 122 rfl)) (mvT hZ (own_w hw 123 rfl)) (mvT hZ (own_w hw 124 rfl)) (by decide) (backOf (W := 0) (rmadd6 l Z a0 hw [] b2 b15 w_DEFAULTCAPACITY_EMPTY_ELEMENTDATA (FP.ddiv rs0 (FP.i2d qu)) (FP.ddiv rh0 (FP.i2d qu)) (FP.ddiv ps0 (FP.i2d qu)) (FP.ddiv (FP.l2d fo0) (FP.l2d be0)) (FP.ddiv (FP.l2d fo0) (FP.l2d rel)) (FP.ddiv cs0 (FP.i2d qu)) k_w_DEFAULTCAPACITY_EMPTY_ELEMENTDATA h95 n0 f108 f100 f102 f105 f107 g95_0 g95_1 g95_2 g95_3 g95_4 g95_5 g95_6 g95_7 P32 P34 ge3 P31 (Ne.symm ne103)) hZ (own_w hw 125 rfl) (own_w hw 69 rfl) (by decide) (by decide)) q98a q98b q98c (g := (mkF m 122 #[lvR o_, lvR b2, lvI (0 : Int32)] [(.ref b15), (.ref b2)])) rfl (by rw [hml]; rfl) (Steps.refl _) (argsL := [(.ref b15)]) (rest := []) (lenOf pd_11 rfl) rfl (by show 2 * 0 + _ ≤ _; exact Nat.le_of_eq rfl) (hb hby d8_122) (fun _ _ => ⟨rfl, e95, (by decide : 2 + 1 ≤ _), (by decide : 10 + 10 ≤ _)⟩)
  dsimp only [Pt.U, Pt.locs, Pt.cells, Pt.slots] at X98 l98 y98 z98 st98 hQ98
  subst l98 y98 z98
  obtain ⟨h98, e98⟩ : ∃ z, T98.heap = z := ⟨_, rfl⟩
  rw [e98] at hQ98
  obtain ⟨k8_2_3_9_98, nnnnb8_2_3_9_98, rfl, N98q, K98, sznnnnb8_2_3_9_98, g98_0, g98_1, g98_2, g98_3, g98_4, g98_5⟩ := hQ98
  have N109 := Fr.app N97 N98q
  have ge110 : n0 ≤ nnnnb8_2_3_9_98 := Nat.le_trans (Nat.le_trans (Nat.le_of_eq f108.1.symm) f108.2.1) sznnnnb8_2_3_9_98
  have f111 : Keep h0 h15 [] := f19.ext E15
  have f112 : Keep h0 h95 [] := f111.trans K95 (allS (Or.inr sz20) all0)
  have sz113 : h0.size ≤ nnnnb8_2_3_9_98 := Nat.le_trans f112.1 sznnnnb8_2_3_9_98
  have f114 : Fld Z h15 o_ cn1 "collections" "I" (.int (2 : Int32)) := f12.ext E15
  have f116 : Exa Z h2 o_ cn1 := P13.ext E2
  have f117 : Exa Z h8 o_ cn1 := f116.keep K8
  have ne118 : o_ ≠ b15 := Nat.ne_of_lt (Nat.lt_of_lt_of_le f117.lt (Nat.le_of_eq g15.symm))
  have f115 : Fld Z h95 o_ cn1 "collections" "I" (.int (2 : Int32)) := f114.keep K95 (ninS ne118 nin0)
  have f119 : Fld Z h98 o_ cn1 "collections" "I" (.int (2 : Int32)) := f115.keep K98 (ninS ne13 nin0)
  obtain ⟨T120, X120, e120, st120⟩ := getF X98 hx hZ hown (host := "") (Or.inl (own_w hw 11 rfl)) Via.refl e98 f119 (g := (mkF m 29 #[lvR o_, lvR b2, lvI (1 : Int32)] [(.ref o_), (.int (1 : Int32))])) rfl rfl (hb hby d8_29)
  obtain ⟨T121, h121, X121, e121, E121, A121, D121, -, st121⟩ := newO X120 hx hZ hown (own_w hw 91 rfl) (own_w hw 92 rfl) (own_w hw 93 rfl) e120 (g := (mkF m 36 #[lvR o_, lvR b2, lvI (1 : Int32)] [(.ref b2)])) rfl (hb hby d8_36) (by decide) (by decide)
  obtain ⟨b121, g121⟩ : ∃ z, z = h98.size := ⟨_, rfl⟩
  rw [← g121] at A121 D121 st121
  have f122 : Old Z n0 h98 := f108.keep K98 (allS (ge3) all0)
  have ge123 : n0 ≤ b121 := Nat.le_trans (Nat.le_trans (Nat.le_of_eq f122.1.symm) f122.2.1) (Nat.le_of_eq g121.symm)
  have f124 : Keep h0 h98 [] := f112.trans K98 (allS (Or.inr sz4) all0)
  have sz125 : h0.size ≤ b121 := Nat.le_trans f124.1 (Nat.le_of_eq g121.symm)
  have f126 : Fld Z h121 b121 cn2 "n" "I" (.int (0 : Int32)) := D121 (Or.inr (own_w hw 104 rfl)) (ty := .int) (by decide)
  have f127 : Fld Z h121 b121 cn2 "r" "D" (.double (0 : UInt64)) := D121 (Or.inr (own_w hw 106 rfl)) (ty := .double) (by decide)
  have f128 : Fld Z h121 b121 cn2 "rHat" "D" (.double (0 : UInt64)) := D121 (Or.inr (own_w hw 108 rfl)) (ty := .double) (by decide)
  have f129 : Fld Z h121 b121 cn2 "p" "D" (.double (0 : UInt64)) := D121 (Or.inr (own_w hw 110 rfl)) (ty := .double) (by decide)
  have f130 : Fld Z h121 b121 cn2 "accuracy" "D" (.double (0 : UInt64)) := D121 (Or.inr (own_w hw 112 rfl)) (ty := .double) (by decide)
  have f131 : Fld Z h121 b121 cn2 "share" "D" (.double (0 : UInt64)) := D121 (Or.inr (own_w hw 114 rfl)) (ty := .double) (by decide)
  have f132 : Fld Z h121 b121 cn2 "cp" "D" (.double (0 : UInt64)) := D121 (Or.inr (own_w hw 116 rfl)) (ty := .double) (by decide)
  have f133 : Fld Z h95 o_ cn1 "rSums" "[D" (.ref aR) := f30.keep K95 (ninS ne118 nin0)
  have f134 : Fld Z h98 o_ cn1 "rSums" "[D" (.ref aR) := f133.keep K98 (ninS ne13 nin0)
  have f135 : Fld Z h121 o_ cn1 "rSums" "[D" (.ref aR) := f134.ext E121
  obtain ⟨T136, X136, e136, st136⟩ := getF X121 hx hZ hown (host := "") (Or.inl (own_w hw 14 rfl)) Via.refl e121 f135 (g := (mkF m 44 #[lvR o_, lvR b2, lvI (1 : Int32)] [(.ref o_), (.int (2 : Int32)), (.ref b121), (.ref b121), (.ref b2)])) rfl rfl (hb hby d8_44)
  have ne138 : aR ≠ b15 := Nat.ne_of_lt (Nat.lt_of_lt_of_le f33.lt (Nat.le_of_eq g15.symm))
  have f137 : Arv Z h95 aR kaR .double (2 : Int32) [(.double rs0), (.double rs1)] (.double (0 : UInt64)) := f35.keep K95 (ninS ne138 nin0)
  have f139 : Arv Z h98 aR kaR .double (2 : Int32) [(.double rs0), (.double rs1)] (.double (0 : UInt64)) := f137.keep K98 (ninS ne34 nin0)
  have f140 : Arv Z h121 aR kaR .double (2 : Int32) [(.double rs0), (.double rs1)] (.double (0 : UInt64)) := f139.ext E121
  obtain ⟨c141, r141, q141, s141, z141, y141, G141⟩ := id f140
  have hin141 : ¬ ((1 : Int32) < 0 ∨ c141.slots.size ≤ ((1 : Int32)).toNatClampNeg) := inb_of s141 ⟨by decide, by decide⟩
  have hat141 : c141.slots[((1 : Int32)).toNatClampNeg]? = some (.double rs1) := Has.at y141 hin141 rfl
  have f142 : Fld Z h95 o_ cn1 "queries" "I" (.int qu) := f39.keep K95 (ninS ne118 nin0)
  have f143 : Fld Z h98 o_ cn1 "queries" "I" (.int qu) := f142.keep K98 (ninS ne13 nin0)
  have f144 : Fld Z h121 o_ cn1 "queries" "I" (.int qu) := f143.ext E121
  obtain ⟨T145, X145, e145, st145⟩ := getF X136 hx hZ hown (host := "") (Or.inl (own_w hw 58 rfl)) Via.refl e136 f144 (g := (mkF m 50 #[lvR o_, lvR b2, lvI (1 : Int32)] [(.ref o_), (.double rs1), (.int (2 : Int32)), (.ref b121), (.ref b121), (.ref b2)])) rfl rfl (hb hby d8_50)
  have f146 : Fld Z h95 o_ cn1 "rHatSums" "[D" (.ref aH) := f43.keep K95 (ninS ne118 nin0)
  have f147 : Fld Z h98 o_ cn1 "rHatSums" "[D" (.ref aH) := f146.keep K98 (ninS ne13 nin0)
  have f148 : Fld Z h121 o_ cn1 "rHatSums" "[D" (.ref aH) := f147.ext E121
  obtain ⟨T149, X149, e149, st149⟩ := getF X145 hx hZ hown (host := "") (Or.inl (own_w hw 16 rfl)) Via.refl e145 f148 (g := (mkF m 56 #[lvR o_, lvR b2, lvI (1 : Int32)] [(.ref o_), (.double (FP.ddiv rs1 (FP.i2d qu))), (.int (2 : Int32)), (.ref b121), (.ref b121), (.ref b2)])) rfl rfl (hb hby d8_56)
  have ne151 : aH ≠ b15 := Nat.ne_of_lt (Nat.lt_of_lt_of_le f46.lt (Nat.le_of_eq g15.symm))
  have f150 : Arv Z h95 aH kaH .double (2 : Int32) [(.double rh0), (.double rh1)] (.double (0 : UInt64)) := f48.keep K95 (ninS ne151 nin0)
  have f152 : Arv Z h98 aH kaH .double (2 : Int32) [(.double rh0), (.double rh1)] (.double (0 : UInt64)) := f150.keep K98 (ninS ne47 nin0)
  have f153 : Arv Z h121 aH kaH .double (2 : Int32) [(.double rh0), (.double rh1)] (.double (0 : UInt64)) := f152.ext E121
  obtain ⟨c154, r154, q154, s154, z154, y154, G154⟩ := id f153
  have hin154 : ¬ ((1 : Int32) < 0 ∨ c154.slots.size ≤ ((1 : Int32)).toNatClampNeg) := inb_of s154 ⟨by decide, by decide⟩
  have hat154 : c154.slots[((1 : Int32)).toNatClampNeg]? = some (.double rh1) := Has.at y154 hin154 rfl
  obtain ⟨T155, X155, e155, st155⟩ := getF X149 hx hZ hown (host := "") (Or.inl (own_w hw 58 rfl)) Via.refl e149 f144 (g := (mkF m 62 #[lvR o_, lvR b2, lvI (1 : Int32)] [(.ref o_), (.double rh1), (.double (FP.ddiv rs1 (FP.i2d qu))), (.int (2 : Int32)), (.ref b121), (.ref b121), (.ref b2)])) rfl rfl (hb hby d8_62)
  have f156 : Fld Z h95 o_ cn1 "pSums" "[D" (.ref aP) := f53.keep K95 (ninS ne118 nin0)
  have f157 : Fld Z h98 o_ cn1 "pSums" "[D" (.ref aP) := f156.keep K98 (ninS ne13 nin0)
  have f158 : Fld Z h121 o_ cn1 "pSums" "[D" (.ref aP) := f157.ext E121
  obtain ⟨T159, X159, e159, st159⟩ := getF X155 hx hZ hown (host := "") (Or.inl (own_w hw 18 rfl)) Via.refl e155 f158 (g := (mkF m 68 #[lvR o_, lvR b2, lvI (1 : Int32)] [(.ref o_), (.double (FP.ddiv rh1 (FP.i2d qu))), (.double (FP.ddiv rs1 (FP.i2d qu))), (.int (2 : Int32)), (.ref b121), (.ref b121), (.ref b2)])) rfl rfl (hb hby d8_68)
  have ne161 : aP ≠ b15 := Nat.ne_of_lt (Nat.lt_of_lt_of_le f56.lt (Nat.le_of_eq g15.symm))
  have f160 : Arv Z h95 aP kaP .double (2 : Int32) [(.double ps0), (.double ps1)] (.double (0 : UInt64)) := f58.keep K95 (ninS ne161 nin0)
  have f162 : Arv Z h98 aP kaP .double (2 : Int32) [(.double ps0), (.double ps1)] (.double (0 : UInt64)) := f160.keep K98 (ninS ne57 nin0)
  have f163 : Arv Z h121 aP kaP .double (2 : Int32) [(.double ps0), (.double ps1)] (.double (0 : UInt64)) := f162.ext E121
  obtain ⟨c164, r164, q164, s164, z164, y164, G164⟩ := id f163
  have hin164 : ¬ ((1 : Int32) < 0 ∨ c164.slots.size ≤ ((1 : Int32)).toNatClampNeg) := inb_of s164 ⟨by decide, by decide⟩
  have hat164 : c164.slots[((1 : Int32)).toNatClampNeg]? = some (.double ps1) := Has.at y164 hin164 rfl
  obtain ⟨T165, X165, e165, st165⟩ := getF X159 hx hZ hown (host := "") (Or.inl (own_w hw 58 rfl)) Via.refl e159 f144 (g := (mkF m 74 #[lvR o_, lvR b2, lvI (1 : Int32)] [(.ref o_), (.double ps1), (.double (FP.ddiv rh1 (FP.i2d qu))), (.double (FP.ddiv rs1 (FP.i2d qu))), (.int (2 : Int32)), (.ref b121), (.ref b121), (.ref b2)])) rfl rfl (hb hby d8_74)
  have f166 : Fld Z h95 o_ cn1 "found" "[J" (.ref aF) := f63.keep K95 (ninS ne118 nin0)
  have f167 : Fld Z h98 o_ cn1 "found" "[J" (.ref aF) := f166.keep K98 (ninS ne13 nin0)
  have f168 : Fld Z h121 o_ cn1 "found" "[J" (.ref aF) := f167.ext E121
  obtain ⟨T169, X169, e169, st169⟩ := getF X165 hx hZ hown (host := "") (Or.inl (own_w hw 23 rfl)) Via.refl e165 f168 (g := (mkF m 80 #[lvR o_, lvR b2, lvI (1 : Int32)] [(.ref o_), (.double (FP.ddiv ps1 (FP.i2d qu))), (.double (FP.ddiv rh1 (FP.i2d qu))), (.double (FP.ddiv rs1 (FP.i2d qu))), (.int (2 : Int32)), (.ref b121), (.ref b121), (.ref b2)])) rfl rfl (hb hby d8_80)
  have ne171 : aF ≠ b15 := Nat.ne_of_lt (Nat.lt_of_lt_of_le f66.lt (Nat.le_of_eq g15.symm))
  have f170 : Arv Z h95 aF kaF .long (2 : Int32) [(.long fo0), (.long fo1)] (.long (0 : Int64)) := f68.keep K95 (ninS ne171 nin0)
  have f172 : Arv Z h98 aF kaF .long (2 : Int32) [(.long fo0), (.long fo1)] (.long (0 : Int64)) := f170.keep K98 (ninS ne67 nin0)
  have f173 : Arv Z h121 aF kaF .long (2 : Int32) [(.long fo0), (.long fo1)] (.long (0 : Int64)) := f172.ext E121
  obtain ⟨c174, r174, q174, s174, z174, y174, G174⟩ := id f173
  have hin174 : ¬ ((1 : Int32) < 0 ∨ c174.slots.size ≤ ((1 : Int32)).toNatClampNeg) := inb_of s174 ⟨by decide, by decide⟩
  have hat174 : c174.slots[((1 : Int32)).toNatClampNeg]? = some (.long fo1) := Has.at y174 hin174 rfl
  have f175 : Fld Z h95 o_ cn1 "best" "[J" (.ref aB) := f72.keep K95 (ninS ne118 nin0)
  have f176 : Fld Z h98 o_ cn1 "best" "[J" (.ref aB) := f175.keep K98 (ninS ne13 nin0)
  have f177 : Fld Z h121 o_ cn1 "best" "[J" (.ref aB) := f176.ext E121
  obtain ⟨T178, X178, e178, st178⟩ := getF X169 hx hZ hown (host := "") (Or.inl (own_w hw 25 rfl)) Via.refl e169 f177 (g := (mkF m 87 #[lvR o_, lvR b2, lvI (1 : Int32)] [(.ref o_), (.double (FP.l2d fo1)), (.double (FP.ddiv ps1 (FP.i2d qu))), (.double (FP.ddiv rh1 (FP.i2d qu))), (.double (FP.ddiv rs1 (FP.i2d qu))), (.int (2 : Int32)), (.ref b121), (.ref b121), (.ref b2)])) rfl rfl (hb hby d8_87)
  have ne180 : aB ≠ b15 := Nat.ne_of_lt (Nat.lt_of_lt_of_le f75.lt (Nat.le_of_eq g15.symm))
  have f179 : Arv Z h95 aB kaB .long (2 : Int32) [(.long be0), (.long be1)] (.long (0 : Int64)) := f77.keep K95 (ninS ne180 nin0)
  have f181 : Arv Z h98 aB kaB .long (2 : Int32) [(.long be0), (.long be1)] (.long (0 : Int64)) := f179.keep K98 (ninS ne76 nin0)
  have f182 : Arv Z h121 aB kaB .long (2 : Int32) [(.long be0), (.long be1)] (.long (0 : Int64)) := f181.ext E121
  obtain ⟨c183, r183, q183, s183, z183, y183, G183⟩ := id f182
  have hin183 : ¬ ((1 : Int32) < 0 ∨ c183.slots.size ≤ ((1 : Int32)).toNatClampNeg) := inb_of s183 ⟨by decide, by decide⟩
  have hat183 : c183.slots[((1 : Int32)).toNatClampNeg]? = some (.long be1) := Has.at y183 hin183 rfl
  obtain ⟨T184, X184, e184, st184⟩ := getF X178 hx hZ hown (host := "") (Or.inl (own_w hw 23 rfl)) Via.refl e178 f168 (g := (mkF m 95 #[lvR o_, lvR b2, lvI (1 : Int32)] [(.ref o_), (.double (FP.ddiv (FP.l2d fo1) (FP.l2d be1))), (.double (FP.ddiv ps1 (FP.i2d qu))), (.double (FP.ddiv rh1 (FP.i2d qu))), (.double (FP.ddiv rs1 (FP.i2d qu))), (.int (2 : Int32)), (.ref b121), (.ref b121), (.ref b2)])) rfl rfl (hb hby d8_95)
  obtain ⟨c185, r185, q185, s185, z185, y185, G185⟩ := id f173
  have hin185 : ¬ ((1 : Int32) < 0 ∨ c185.slots.size ≤ ((1 : Int32)).toNatClampNeg) := inb_of s185 ⟨by decide, by decide⟩
  have hat185 : c185.slots[((1 : Int32)).toNatClampNeg]? = some (.long fo1) := Has.at y185 hin185 rfl
  have f186 : Fld Z h95 o_ cn1 "relevant" "J" (.long rel) := f83.keep K95 (ninS ne118 nin0)
  have f187 : Fld Z h98 o_ cn1 "relevant" "J" (.long rel) := f186.keep K98 (ninS ne13 nin0)
  have f188 : Fld Z h121 o_ cn1 "relevant" "J" (.long rel) := f187.ext E121
  obtain ⟨T189, X189, e189, st189⟩ := getF X184 hx hZ hown (host := "") (Or.inl (own_w hw 60 rfl)) Via.refl e184 f188 (g := (mkF m 102 #[lvR o_, lvR b2, lvI (1 : Int32)] [(.ref o_), (.double (FP.l2d fo1)), (.double (FP.ddiv (FP.l2d fo1) (FP.l2d be1))), (.double (FP.ddiv ps1 (FP.i2d qu))), (.double (FP.ddiv rh1 (FP.i2d qu))), (.double (FP.ddiv rs1 (FP.i2d qu))), (.int (2 : Int32)), (.ref b121), (.ref b121), (.ref b2)])) rfl rfl (hb hby d8_102)
  have f190 : Fld Z h95 o_ cn1 "cpSums" "[D" (.ref aC) := f87.keep K95 (ninS ne118 nin0)
  have f191 : Fld Z h98 o_ cn1 "cpSums" "[D" (.ref aC) := f190.keep K98 (ninS ne13 nin0)
  have f192 : Fld Z h121 o_ cn1 "cpSums" "[D" (.ref aC) := f191.ext E121
  obtain ⟨T193, X193, e193, st193⟩ := getF X189 hx hZ hown (host := "") (Or.inl (own_w hw 20 rfl)) Via.refl e189 f192 (g := (mkF m 108 #[lvR o_, lvR b2, lvI (1 : Int32)] [(.ref o_), (.double (FP.ddiv (FP.l2d fo1) (FP.l2d rel))), (.double (FP.ddiv (FP.l2d fo1) (FP.l2d be1))), (.double (FP.ddiv ps1 (FP.i2d qu))), (.double (FP.ddiv rh1 (FP.i2d qu))), (.double (FP.ddiv rs1 (FP.i2d qu))), (.int (2 : Int32)), (.ref b121), (.ref b121), (.ref b2)])) rfl rfl (hb hby d8_108)
  have ne195 : aC ≠ b15 := Nat.ne_of_lt (Nat.lt_of_lt_of_le f90.lt (Nat.le_of_eq g15.symm))
  have f194 : Arv Z h95 aC kaC .double (2 : Int32) [(.double cs0), (.double cs1)] (.double (0 : UInt64)) := f92.keep K95 (ninS ne195 nin0)
  have f196 : Arv Z h98 aC kaC .double (2 : Int32) [(.double cs0), (.double cs1)] (.double (0 : UInt64)) := f194.keep K98 (ninS ne91 nin0)
  have f197 : Arv Z h121 aC kaC .double (2 : Int32) [(.double cs0), (.double cs1)] (.double (0 : UInt64)) := f196.ext E121
  obtain ⟨c198, r198, q198, s198, z198, y198, G198⟩ := id f197
  have hin198 : ¬ ((1 : Int32) < 0 ∨ c198.slots.size ≤ ((1 : Int32)).toNatClampNeg) := inb_of s198 ⟨by decide, by decide⟩
  have hat198 : c198.slots[((1 : Int32)).toNatClampNeg]? = some (.double cs1) := Has.at y198 hin198 rfl
  obtain ⟨T199, X199, e199, st199⟩ := getF X193 hx hZ hown (host := "") (Or.inl (own_w hw 58 rfl)) Via.refl e193 f144 (g := (mkF m 114 #[lvR o_, lvR b2, lvI (1 : Int32)] [(.ref o_), (.double cs1), (.double (FP.ddiv (FP.l2d fo1) (FP.l2d rel))), (.double (FP.ddiv (FP.l2d fo1) (FP.l2d be1))), (.double (FP.ddiv ps1 (FP.i2d qu))), (.double (FP.ddiv rh1 (FP.i2d qu))), (.double (FP.ddiv rs1 (FP.i2d qu))), (.int (2 : Int32)), (.ref b121), (.ref b121), (.ref b2)])) rfl rfl (hb hby d8_114)
  have f201 : Old Z n0 h121 := f122.ext E121
  obtain ⟨_, _, ⟨T200, L200, k200, n200⟩, -, X200, ⟨Lc200, hQ200, l200, y200, z200⟩, st200⟩ := X199.specialBack hx (y := mn3) rfl hown (mvT hZ (own_w hw 94 rfl)) (mvT hZ (own_w hw 95 rfl)) (mvT hZ (own_w hw 96 rfl)) (by decide) (backOf (W := 2) (rminit17 l Z a0 hw [] b121 (FP.ddiv rs1 (FP.i2d qu)) (FP.ddiv rh1 (FP.i2d qu)) (FP.ddiv ps1 (FP.i2d qu)) (FP.ddiv (FP.l2d fo1) (FP.l2d be1)) (FP.ddiv (FP.l2d fo1) (FP.l2d rel)) (FP.ddiv cs1 (FP.i2d qu)) h121 n0 f201 A121 f126 f127 f128 f129 f130 f131 f132 ge123) hZ (own_w hw 96 rfl) (own_w hw 93 rfl) (by decide) (by decide)) (g := (mkF m 119 #[lvR o_, lvR b2, lvI (1 : Int32)] [(.double (FP.ddiv cs1 (FP.i2d qu))), (.double (FP.ddiv (FP.l2d fo1) (FP.l2d rel))), (.double (FP.ddiv (FP.l2d fo1) (FP.l2d be1))), (.double (FP.ddiv ps1 (FP.i2d qu))), (.double (FP.ddiv rh1 (FP.i2d qu))), (.double (FP.ddiv rs1 (FP.i2d qu))), (.int (2 : Int32)), (.ref b121), (.ref b121), (.ref b2)])) rfl (by rw [hml]; rfl) (Steps.refl _) (a := b121) (argsL := [(.int (2 : Int32)), (.double (FP.ddiv rs1 (FP.i2d qu))), (.double (FP.ddiv rh1 (FP.i2d qu))), (.double (FP.ddiv ps1 (FP.i2d qu))), (.double (FP.ddiv (FP.l2d fo1) (FP.l2d be1))), (.double (FP.ddiv (FP.l2d fo1) (FP.l2d rel))), (.double (FP.ddiv cs1 (FP.i2d qu)))]) (rest := [(.ref b121), (.ref b2)]) (lenOf pd_6 rfl) rfl (by show 2 * 0 + _ ≤ _; exact Nat.le_of_eq rfl) (hb hby d8_119) (fun _ _ => ⟨rfl, e199, (by decide : 4 + 0 ≤ _), (by decide : 27 + 0 ≤ _)⟩)
  dsimp only [Pt.U, Pt.locs, Pt.cells, Pt.slots] at X200 l200 y200 z200 st200 hQ200
  subst l200 y200 z200
  obtain ⟨h200, e200⟩ : ∃ z, T200.heap = z := ⟨_, rfl⟩
  rw [e200] at hQ200
  obtain ⟨rfl, N200q, K200, g200_0, g200_1, g200_2, g200_3, g200_4, g200_5, g200_6, g200_7⟩ := hQ200
  have N202 := Fr.app N109 N200q
  have f204 : Exa Z h121 b2 "java/util/ArrayList" := g98_0.ext E121
  have f205 : Exa Z h200 b2 "java/util/ArrayList" := f204.keep K200
  have f206 : Fld Z h121 b2 "java/util/AbstractList" "modCount" "I" (.int (1 : Int32)) := g98_1.ext E121
  have ne208 : b2 ≠ b121 := Nat.ne_of_lt (Nat.lt_of_lt_of_le g98_0.lt (Nat.le_of_eq g121.symm))
  have f207 : Fld Z h200 b2 "java/util/AbstractList" "modCount" "I" (.int (1 : Int32)) := f206.keep K200 (ninS ne208 nin0)
  have f209 : Fld Z h121 b2 "java/util/ArrayList" "elementData" "[Ljava/lang/Object;" (.ref nnnnb8_2_3_9_98) := g98_2.ext E121
  have f210 : Fld Z h200 b2 "java/util/ArrayList" "elementData" "[Ljava/lang/Object;" (.ref nnnnb8_2_3_9_98) := f209.keep K200 (ninS ne208 nin0)
  have f211 : Fld Z h121 b2 "java/util/ArrayList" "size" "I" (.int (1 : Int32)) := g98_3.ext E121
  have f212 : Fld Z h200 b2 "java/util/ArrayList" "size" "I" (.int (1 : Int32)) := f211.keep K200 (ninS ne208 nin0)
  have f213 : Arv Z h121 nnnnb8_2_3_9_98 k8_2_3_9_98 (.object "java/lang/Object") (10 : Int32) [(.ref b15), .null, .null, .null, .null, .null, .null, .null, .null, .null] .null := g98_4.ext E121
  have ne215 : nnnnb8_2_3_9_98 ≠ b121 := Nat.ne_of_lt (Nat.lt_of_lt_of_le g98_4.lt (Nat.le_of_eq g121.symm))
  have f214 : Arv Z h200 nnnnb8_2_3_9_98 k8_2_3_9_98 (.object "java/lang/Object") (10 : Int32) [(.ref b15), .null, .null, .null, .null, .null, .null, .null, .null, .null] .null := f213.keep K200 (ninS ne215 nin0)
  have f216 : Exa Z h121 nnnnb8_2_3_9_98 "[Ljava/lang/Object;" := g98_5.ext E121
  have f217 : Exa Z h200 nnnnb8_2_3_9_98 "[Ljava/lang/Object;" := f216.keep K200
  have f218 : Exa Z h98 b15 cn2 := g95_0.keep K98
  have f219 : Exa Z h121 b15 cn2 := f218.ext E121
  have f220 : Exa Z h200 b15 cn2 := f219.keep K200
  have f221 : Fld Z h98 b15 cn2 "n" "I" (.int (1 : Int32)) := g95_1.keep K98 (ninS (Ne.symm ne103) nin0)
  have f222 : Fld Z h121 b15 cn2 "n" "I" (.int (1 : Int32)) := f221.ext E121
  have ne224 : b15 ≠ b121 := Nat.ne_of_lt (Nat.lt_of_lt_of_le f218.lt (Nat.le_of_eq g121.symm))
  have f223 : Fld Z h200 b15 cn2 "n" "I" (.int (1 : Int32)) := f222.keep K200 (ninS ne224 nin0)
  have f225 : Fld Z h98 b15 cn2 "r" "D" (.double (FP.ddiv rs0 (FP.i2d qu))) := g95_2.keep K98 (ninS (Ne.symm ne103) nin0)
  have f226 : Fld Z h121 b15 cn2 "r" "D" (.double (FP.ddiv rs0 (FP.i2d qu))) := f225.ext E121
  have f227 : Fld Z h200 b15 cn2 "r" "D" (.double (FP.ddiv rs0 (FP.i2d qu))) := f226.keep K200 (ninS ne224 nin0)
  have f228 : Fld Z h98 b15 cn2 "rHat" "D" (.double (FP.ddiv rh0 (FP.i2d qu))) := g95_3.keep K98 (ninS (Ne.symm ne103) nin0)
  have f229 : Fld Z h121 b15 cn2 "rHat" "D" (.double (FP.ddiv rh0 (FP.i2d qu))) := f228.ext E121
  have f230 : Fld Z h200 b15 cn2 "rHat" "D" (.double (FP.ddiv rh0 (FP.i2d qu))) := f229.keep K200 (ninS ne224 nin0)
  have f231 : Fld Z h98 b15 cn2 "p" "D" (.double (FP.ddiv ps0 (FP.i2d qu))) := g95_4.keep K98 (ninS (Ne.symm ne103) nin0)
  have f232 : Fld Z h121 b15 cn2 "p" "D" (.double (FP.ddiv ps0 (FP.i2d qu))) := f231.ext E121
  have f233 : Fld Z h200 b15 cn2 "p" "D" (.double (FP.ddiv ps0 (FP.i2d qu))) := f232.keep K200 (ninS ne224 nin0)
  have f234 : Fld Z h98 b15 cn2 "accuracy" "D" (.double (FP.ddiv (FP.l2d fo0) (FP.l2d be0))) := g95_5.keep K98 (ninS (Ne.symm ne103) nin0)
  have f235 : Fld Z h121 b15 cn2 "accuracy" "D" (.double (FP.ddiv (FP.l2d fo0) (FP.l2d be0))) := f234.ext E121
  have f236 : Fld Z h200 b15 cn2 "accuracy" "D" (.double (FP.ddiv (FP.l2d fo0) (FP.l2d be0))) := f235.keep K200 (ninS ne224 nin0)
  have f237 : Fld Z h98 b15 cn2 "share" "D" (.double (FP.ddiv (FP.l2d fo0) (FP.l2d rel))) := g95_6.keep K98 (ninS (Ne.symm ne103) nin0)
  have f238 : Fld Z h121 b15 cn2 "share" "D" (.double (FP.ddiv (FP.l2d fo0) (FP.l2d rel))) := f237.ext E121
  have f239 : Fld Z h200 b15 cn2 "share" "D" (.double (FP.ddiv (FP.l2d fo0) (FP.l2d rel))) := f238.keep K200 (ninS ne224 nin0)
  have f240 : Fld Z h98 b15 cn2 "cp" "D" (.double (FP.ddiv cs0 (FP.i2d qu))) := g95_7.keep K98 (ninS (Ne.symm ne103) nin0)
  have f241 : Fld Z h121 b15 cn2 "cp" "D" (.double (FP.ddiv cs0 (FP.i2d qu))) := f240.ext E121
  have f242 : Fld Z h200 b15 cn2 "cp" "D" (.double (FP.ddiv cs0 (FP.i2d qu))) := f241.keep K200 (ninS ne224 nin0)
  have ne243 : b2 ≠ nnnnb8_2_3_9_98 := Nat.ne_of_lt (Nat.lt_of_lt_of_le f100.lt sznnnnb8_2_3_9_98)
  have f244 : Old Z n0 h200 := f201.keep K200 (allS (ge123) all0)
  obtain ⟨cq203, kq203, q203a, q203b, q203c⟩ := isOf hZ e200 f205
  obtain ⟨_, _, ⟨T203, L203, k203, n203⟩, -, X203, ⟨Lc203, hQ203, l203, y203, z203⟩, st203⟩ := X200.interfaceBack hx (xi := (⟨"java/util/List", "add", "(Ljava/lang/Object;)Z"⟩ : MethodName)) (y := (⟨"java/util/ArrayList", "add", "(Ljava/lang/Object;)Z"⟩ : MethodName)) hown (mvT hZ (own_w hw 117 rfl)) (mvT hZ (own_w hw 118 rfl)) (mvT hZ (own_w hw 119 rfl)) (mvT hZ (own_w hw 120 rfl)) (mvT hZ (own_w hw 121 rfl)) (mvT hZ (own_w hw 122 rfl)) (mvT hZ (own_w hw 123 rfl)) (mvT hZ (own_w hw 124 rfl)) (by decide) (backOf (W := 0) (rmadd18 l Z a0 hw [] b2 b121 nnnnb8_2_3_9_98 (FP.ddiv rs1 (FP.i2d qu)) (FP.ddiv rh1 (FP.i2d qu)) (FP.ddiv ps1 (FP.i2d qu)) (FP.ddiv (FP.l2d fo1) (FP.l2d be1)) (FP.ddiv (FP.l2d fo1) (FP.l2d rel)) (FP.ddiv cs1 (FP.i2d qu)) k8_2_3_9_98 b15 (FP.ddiv rs0 (FP.i2d qu)) (FP.ddiv rh0 (FP.i2d qu)) (FP.ddiv ps0 (FP.i2d qu)) (FP.ddiv (FP.l2d fo0) (FP.l2d be0)) (FP.ddiv (FP.l2d fo0) (FP.l2d rel)) (FP.ddiv cs0 (FP.i2d qu)) h200 n0 f244 f205 f207 f210 f212 g200_0 g200_1 g200_2 g200_3 g200_4 g200_5 g200_6 g200_7 f214 f217 f220 f223 f227 f230 f233 f236 f239 f242 ge3 (Ne.symm ne208) (Ne.symm ne243) (Ne.symm ne103) ge110) hZ (own_w hw 125 rfl) (own_w hw 69 rfl) (by decide) (by decide)) q203a q203b q203c (g := (mkF m 122 #[lvR o_, lvR b2, lvI (1 : Int32)] [(.ref b121), (.ref b2)])) rfl (by rw [hml]; rfl) (Steps.refl _) (argsL := [(.ref b121)]) (rest := []) (lenOf pd_11 rfl) rfl (by show 2 * 0 + _ ≤ _; exact Nat.le_of_eq rfl) (hb hby d8_122) (fun _ _ => ⟨rfl, e200, (by decide : 4 + 0 ≤ _), (by decide : 27 + 0 ≤ _)⟩)
  dsimp only [Pt.U, Pt.locs, Pt.cells, Pt.slots] at X203 l203 y203 z203 st203 hQ203
  subst l203 y203 z203
  obtain ⟨h203, e203⟩ : ∃ z, T203.heap = z := ⟨_, rfl⟩
  rw [e203] at hQ203
  obtain ⟨rfl, N203q, K203, g203_0, g203_1, g203_2, g203_3, g203_4, g203_5⟩ := hQ203
  have N245 := Fr.app N202 N203q
  have f246 : Fld Z h121 o_ cn1 "collections" "I" (.int (2 : Int32)) := f119.ext E121
  have f248 : Exa Z h15 o_ cn1 := f117.ext E15
  have f249 : Exa Z h95 o_ cn1 := f248.keep K95
  have f250 : Exa Z h98 o_ cn1 := f249.keep K98
  have ne251 : o_ ≠ b121 := Nat.ne_of_lt (Nat.lt_of_lt_of_le f250.lt (Nat.le_of_eq g121.symm))
  have f247 : Fld Z h200 o_ cn1 "collections" "I" (.int (2 : Int32)) := f246.keep K200 (ninS ne251 nin0)
  have ne253 : o_ ≠ nnnnb8_2_3_9_98 := Nat.ne_of_lt (Nat.lt_of_lt_of_le f249.lt sznnnnb8_2_3_9_98)
  have f252 : Fld Z h203 o_ cn1 "collections" "I" (.int (2 : Int32)) := f247.keep K203 (ninS ne13 (ninS ne253 nin0))
  obtain ⟨T254, X254, e254, st254⟩ := getF X203 hx hZ hown (host := "") (Or.inl (own_w hw 11 rfl)) Via.refl e203 f252 (g := (mkF m 29 #[lvR o_, lvR b2, lvI (2 : Int32)] [(.ref o_), (.int (2 : Int32))])) rfl rfl (hb hby d8_29)
  have pre255 : ∀ t, own_S p e below m T254 135 #[lvR o_, lvR b2, lvI (2 : Int32)] [(.ref b2)] t → G t := by
    intro t kt
    refine pre0 t ?_
    show own_S p e below m s₁ 0 #[lvR o_, .unset, .unset] [] _
    refine XS.aloadN X0.here hx rfl (hb hby d8_0) rfl rfl ?_
    show own_S p e below m s₁ 1 #[lvR o_, .unset, .unset] [(.ref o_)] _
    refine st1 _ ?_
    show own_S p e below m T1 4 #[lvR o_, .unset, .unset] [(.int qu)] _
    refine XS.ifYes X1.here hx rfl (pc0 := 4) (pc' := 17) rfl (hb hby d8_4) rfl ((if0 _ _).trans (feq hq).2) (by decide) (by decide) ?_
    show own_S p e below m T1 17 #[lvR o_, .unset, .unset] [] _
    refine st2 _ ?_
    refine XS.dup X2.here hx rfl (hb hby d8_20) rfl rfl ?_
    show own_S p e below m T2 21 #[lvR o_, .unset, .unset] [(.ref b2), (.ref b2)] _
    refine st8.trans ?_
    refine XS.astoreN X8.here hx rfl (hb hby d8_24) rfl rfl (l' := #[lvR o_, lvR b2, .unset]) rfl ?_
    refine XS.iconst X8.here hx rfl (hb hby d8_25) ?_
    refine XS.istoreN X8.here hx rfl (hb hby d8_26) rfl (l' := #[lvR o_, lvR b2, lvI (0 : Int32)]) rfl ?_
    refine XS.iloadN X8.here hx rfl (hb hby d8_27) rfl ?_
    refine XS.aloadN X8.here hx rfl (hb hby d8_28) rfl rfl ?_
    show own_S p e below m T8 29 #[lvR o_, lvR b2, lvI (0 : Int32)] [(.ref o_), (.int (0 : Int32))] _
    refine st14 _ ?_
    show own_S p e below m T14 32 #[lvR o_, lvR b2, lvI (0 : Int32)] [(.int (2 : Int32)), (.int (0 : Int32))] _
    refine XS.icmpNo X14.here hx rfl (hb hby d8_32) rfl (tlt (by decide : (0 : Int32) < (2 : Int32))).2.1 ?_
    refine XS.aloadN X14.here hx rfl (hb hby d8_35) rfl rfl ?_
    show own_S p e below m T14 36 #[lvR o_, lvR b2, lvI (0 : Int32)] [(.ref b2)] _
    refine st15 _ ?_
    refine XS.dup X15.here hx rfl (hb hby d8_39) rfl rfl ?_
    refine XS.iloadN X15.here hx rfl (hb hby d8_40) rfl ?_
    refine XS.iconst X15.here hx rfl (hb hby d8_41) ?_
    refine XS.iadd X15.here hx rfl (hb hby d8_42) rfl ?_
    refine XS.aloadN X15.here hx rfl (hb hby d8_43) rfl rfl ?_
    show own_S p e below m T15 44 #[lvR o_, lvR b2, lvI (0 : Int32)] [(.ref o_), (.int (1 : Int32)), (.ref b15), (.ref b15), (.ref b2)] _
    refine st31 _ ?_
    refine XS.iloadN X31.here hx rfl (hb hby d8_47) rfl ?_
    show own_S p e below m T31 48 #[lvR o_, lvR b2, lvI (0 : Int32)] [(.int (0 : Int32)), (.ref aR), (.int (1 : Int32)), (.ref b15), (.ref b15), (.ref b2)] _
    refine X31.daload hx (j := (0 : Int32)) (v := (.double rs0)) (by rw [e31]; exact r36.1) (State.isArrayOf_alike hZ.alike r36.2.1) r36.2.2 hin36 hat36 (g := (mkF m 48 #[lvR o_, lvR b2, lvI (0 : Int32)] [(.int (0 : Int32)), (.ref aR), (.int (1 : Int32)), (.ref b15), (.ref b15), (.ref b2)])) rfl rfl (hb hby d8_48) _ ?_
    refine XS.aloadN X31.here hx rfl (hb hby d8_49) rfl rfl ?_
    show own_S p e below m T31 50 #[lvR o_, lvR b2, lvI (0 : Int32)] [(.ref o_), (.double rs0), (.int (1 : Int32)), (.ref b15), (.ref b15), (.ref b2)] _
    refine st40 _ ?_
    refine XS.i2dS X40.here hx rfl (hb hby d8_53) rfl rfl ?_
    refine XS.ddivS X40.here hx rfl (hb hby d8_54) rfl nrs0 rfl ?_
    refine XS.aloadN X40.here hx rfl (hb hby d8_55) rfl rfl ?_
    show own_S p e below m T40 56 #[lvR o_, lvR b2, lvI (0 : Int32)] [(.ref o_), (.double (FP.ddiv rs0 (FP.i2d qu))), (.int (1 : Int32)), (.ref b15), (.ref b15), (.ref b2)] _
    refine st44 _ ?_
    refine XS.iloadN X44.here hx rfl (hb hby d8_59) rfl ?_
    show own_S p e below m T44 60 #[lvR o_, lvR b2, lvI (0 : Int32)] [(.int (0 : Int32)), (.ref aH), (.double (FP.ddiv rs0 (FP.i2d qu))), (.int (1 : Int32)), (.ref b15), (.ref b15), (.ref b2)] _
    refine X44.daload hx (j := (0 : Int32)) (v := (.double rh0)) (by rw [e44]; exact r49.1) (State.isArrayOf_alike hZ.alike r49.2.1) r49.2.2 hin49 hat49 (g := (mkF m 60 #[lvR o_, lvR b2, lvI (0 : Int32)] [(.int (0 : Int32)), (.ref aH), (.double (FP.ddiv rs0 (FP.i2d qu))), (.int (1 : Int32)), (.ref b15), (.ref b15), (.ref b2)])) rfl rfl (hb hby d8_60) _ ?_
    refine XS.aloadN X44.here hx rfl (hb hby d8_61) rfl rfl ?_
    show own_S p e below m T44 62 #[lvR o_, lvR b2, lvI (0 : Int32)] [(.ref o_), (.double rh0), (.double (FP.ddiv rs0 (FP.i2d qu))), (.int (1 : Int32)), (.ref b15), (.ref b15), (.ref b2)] _
    refine st50 _ ?_
    refine XS.i2dS X50.here hx rfl (hb hby d8_65) rfl rfl ?_
    refine XS.ddivS X50.here hx rfl (hb hby d8_66) rfl nrh0 rfl ?_
    refine XS.aloadN X50.here hx rfl (hb hby d8_67) rfl rfl ?_
    show own_S p e below m T50 68 #[lvR o_, lvR b2, lvI (0 : Int32)] [(.ref o_), (.double (FP.ddiv rh0 (FP.i2d qu))), (.double (FP.ddiv rs0 (FP.i2d qu))), (.int (1 : Int32)), (.ref b15), (.ref b15), (.ref b2)] _
    refine st54 _ ?_
    refine XS.iloadN X54.here hx rfl (hb hby d8_71) rfl ?_
    show own_S p e below m T54 72 #[lvR o_, lvR b2, lvI (0 : Int32)] [(.int (0 : Int32)), (.ref aP), (.double (FP.ddiv rh0 (FP.i2d qu))), (.double (FP.ddiv rs0 (FP.i2d qu))), (.int (1 : Int32)), (.ref b15), (.ref b15), (.ref b2)] _
    refine X54.daload hx (j := (0 : Int32)) (v := (.double ps0)) (by rw [e54]; exact r59.1) (State.isArrayOf_alike hZ.alike r59.2.1) r59.2.2 hin59 hat59 (g := (mkF m 72 #[lvR o_, lvR b2, lvI (0 : Int32)] [(.int (0 : Int32)), (.ref aP), (.double (FP.ddiv rh0 (FP.i2d qu))), (.double (FP.ddiv rs0 (FP.i2d qu))), (.int (1 : Int32)), (.ref b15), (.ref b15), (.ref b2)])) rfl rfl (hb hby d8_72) _ ?_
    refine XS.aloadN X54.here hx rfl (hb hby d8_73) rfl rfl ?_
    show own_S p e below m T54 74 #[lvR o_, lvR b2, lvI (0 : Int32)] [(.ref o_), (.double ps0), (.double (FP.ddiv rh0 (FP.i2d qu))), (.double (FP.ddiv rs0 (FP.i2d qu))), (.int (1 : Int32)), (.ref b15), (.ref b15), (.ref b2)] _
    refine st60 _ ?_
    refine XS.i2dS X60.here hx rfl (hb hby d8_77) rfl rfl ?_
    refine XS.ddivS X60.here hx rfl (hb hby d8_78) rfl nps0 rfl ?_
    refine XS.aloadN X60.here hx rfl (hb hby d8_79) rfl rfl ?_
    show own_S p e below m T60 80 #[lvR o_, lvR b2, lvI (0 : Int32)] [(.ref o_), (.double (FP.ddiv ps0 (FP.i2d qu))), (.double (FP.ddiv rh0 (FP.i2d qu))), (.double (FP.ddiv rs0 (FP.i2d qu))), (.int (1 : Int32)), (.ref b15), (.ref b15), (.ref b2)] _
    refine st64 _ ?_
    refine XS.iloadN X64.here hx rfl (hb hby d8_83) rfl ?_
    show own_S p e below m T64 84 #[lvR o_, lvR b2, lvI (0 : Int32)] [(.int (0 : Int32)), (.ref aF), (.double (FP.ddiv ps0 (FP.i2d qu))), (.double (FP.ddiv rh0 (FP.i2d qu))), (.double (FP.ddiv rs0 (FP.i2d qu))), (.int (1 : Int32)), (.ref b15), (.ref b15), (.ref b2)] _
    refine X64.laload hx (j := (0 : Int32)) (v := (.long fo0)) (by rw [e64]; exact r69.1) (State.isArrayOf_alike hZ.alike r69.2.1) r69.2.2 hin69 hat69 (g := (mkF m 84 #[lvR o_, lvR b2, lvI (0 : Int32)] [(.int (0 : Int32)), (.ref aF), (.double (FP.ddiv ps0 (FP.i2d qu))), (.double (FP.ddiv rh0 (FP.i2d qu))), (.double (FP.ddiv rs0 (FP.i2d qu))), (.int (1 : Int32)), (.ref b15), (.ref b15), (.ref b2)])) rfl rfl (hb hby d8_84) _ ?_
    refine XS.l2dS X64.here hx rfl (hb hby d8_85) rfl rfl ?_
    refine XS.aloadN X64.here hx rfl (hb hby d8_86) rfl rfl ?_
    show own_S p e below m T64 87 #[lvR o_, lvR b2, lvI (0 : Int32)] [(.ref o_), (.double (FP.l2d fo0)), (.double (FP.ddiv ps0 (FP.i2d qu))), (.double (FP.ddiv rh0 (FP.i2d qu))), (.double (FP.ddiv rs0 (FP.i2d qu))), (.int (1 : Int32)), (.ref b15), (.ref b15), (.ref b2)] _
    refine st73 _ ?_
    refine XS.iloadN X73.here hx rfl (hb hby d8_90) rfl ?_
    show own_S p e below m T73 91 #[lvR o_, lvR b2, lvI (0 : Int32)] [(.int (0 : Int32)), (.ref aB), (.double (FP.l2d fo0)), (.double (FP.ddiv ps0 (FP.i2d qu))), (.double (FP.ddiv rh0 (FP.i2d qu))), (.double (FP.ddiv rs0 (FP.i2d qu))), (.int (1 : Int32)), (.ref b15), (.ref b15), (.ref b2)] _
    refine X73.laload hx (j := (0 : Int32)) (v := (.long be0)) (by rw [e73]; exact r78.1) (State.isArrayOf_alike hZ.alike r78.2.1) r78.2.2 hin78 hat78 (g := (mkF m 91 #[lvR o_, lvR b2, lvI (0 : Int32)] [(.int (0 : Int32)), (.ref aB), (.double (FP.l2d fo0)), (.double (FP.ddiv ps0 (FP.i2d qu))), (.double (FP.ddiv rh0 (FP.i2d qu))), (.double (FP.ddiv rs0 (FP.i2d qu))), (.int (1 : Int32)), (.ref b15), (.ref b15), (.ref b2)])) rfl rfl (hb hby d8_91) _ ?_
    refine XS.l2dS X73.here hx rfl (hb hby d8_92) rfl rfl ?_
    refine XS.ddivS X73.here hx rfl (hb hby d8_93) rfl na0 rfl ?_
    refine XS.aloadN X73.here hx rfl (hb hby d8_94) rfl rfl ?_
    show own_S p e below m T73 95 #[lvR o_, lvR b2, lvI (0 : Int32)] [(.ref o_), (.double (FP.ddiv (FP.l2d fo0) (FP.l2d be0))), (.double (FP.ddiv ps0 (FP.i2d qu))), (.double (FP.ddiv rh0 (FP.i2d qu))), (.double (FP.ddiv rs0 (FP.i2d qu))), (.int (1 : Int32)), (.ref b15), (.ref b15), (.ref b2)] _
    refine st79 _ ?_
    refine XS.iloadN X79.here hx rfl (hb hby d8_98) rfl ?_
    show own_S p e below m T79 99 #[lvR o_, lvR b2, lvI (0 : Int32)] [(.int (0 : Int32)), (.ref aF), (.double (FP.ddiv (FP.l2d fo0) (FP.l2d be0))), (.double (FP.ddiv ps0 (FP.i2d qu))), (.double (FP.ddiv rh0 (FP.i2d qu))), (.double (FP.ddiv rs0 (FP.i2d qu))), (.int (1 : Int32)), (.ref b15), (.ref b15), (.ref b2)] _
    refine X79.laload hx (j := (0 : Int32)) (v := (.long fo0)) (by rw [e79]; exact r80.1) (State.isArrayOf_alike hZ.alike r80.2.1) r80.2.2 hin80 hat80 (g := (mkF m 99 #[lvR o_, lvR b2, lvI (0 : Int32)] [(.int (0 : Int32)), (.ref aF), (.double (FP.ddiv (FP.l2d fo0) (FP.l2d be0))), (.double (FP.ddiv ps0 (FP.i2d qu))), (.double (FP.ddiv rh0 (FP.i2d qu))), (.double (FP.ddiv rs0 (FP.i2d qu))), (.int (1 : Int32)), (.ref b15), (.ref b15), (.ref b2)])) rfl rfl (hb hby d8_99) _ ?_
    refine XS.l2dS X79.here hx rfl (hb hby d8_100) rfl rfl ?_
    refine XS.aloadN X79.here hx rfl (hb hby d8_101) rfl rfl ?_
    show own_S p e below m T79 102 #[lvR o_, lvR b2, lvI (0 : Int32)] [(.ref o_), (.double (FP.l2d fo0)), (.double (FP.ddiv (FP.l2d fo0) (FP.l2d be0))), (.double (FP.ddiv ps0 (FP.i2d qu))), (.double (FP.ddiv rh0 (FP.i2d qu))), (.double (FP.ddiv rs0 (FP.i2d qu))), (.int (1 : Int32)), (.ref b15), (.ref b15), (.ref b2)] _
    refine st84 _ ?_
    refine XS.l2dS X84.here hx rfl (hb hby d8_105) rfl rfl ?_
    refine XS.ddivS X84.here hx rfl (hb hby d8_106) rfl ns0 rfl ?_
    refine XS.aloadN X84.here hx rfl (hb hby d8_107) rfl rfl ?_
    show own_S p e below m T84 108 #[lvR o_, lvR b2, lvI (0 : Int32)] [(.ref o_), (.double (FP.ddiv (FP.l2d fo0) (FP.l2d rel))), (.double (FP.ddiv (FP.l2d fo0) (FP.l2d be0))), (.double (FP.ddiv ps0 (FP.i2d qu))), (.double (FP.ddiv rh0 (FP.i2d qu))), (.double (FP.ddiv rs0 (FP.i2d qu))), (.int (1 : Int32)), (.ref b15), (.ref b15), (.ref b2)] _
    refine st88 _ ?_
    refine XS.iloadN X88.here hx rfl (hb hby d8_111) rfl ?_
    show own_S p e below m T88 112 #[lvR o_, lvR b2, lvI (0 : Int32)] [(.int (0 : Int32)), (.ref aC), (.double (FP.ddiv (FP.l2d fo0) (FP.l2d rel))), (.double (FP.ddiv (FP.l2d fo0) (FP.l2d be0))), (.double (FP.ddiv ps0 (FP.i2d qu))), (.double (FP.ddiv rh0 (FP.i2d qu))), (.double (FP.ddiv rs0 (FP.i2d qu))), (.int (1 : Int32)), (.ref b15), (.ref b15), (.ref b2)] _
    refine X88.daload hx (j := (0 : Int32)) (v := (.double cs0)) (by rw [e88]; exact r93.1) (State.isArrayOf_alike hZ.alike r93.2.1) r93.2.2 hin93 hat93 (g := (mkF m 112 #[lvR o_, lvR b2, lvI (0 : Int32)] [(.int (0 : Int32)), (.ref aC), (.double (FP.ddiv (FP.l2d fo0) (FP.l2d rel))), (.double (FP.ddiv (FP.l2d fo0) (FP.l2d be0))), (.double (FP.ddiv ps0 (FP.i2d qu))), (.double (FP.ddiv rh0 (FP.i2d qu))), (.double (FP.ddiv rs0 (FP.i2d qu))), (.int (1 : Int32)), (.ref b15), (.ref b15), (.ref b2)])) rfl rfl (hb hby d8_112) _ ?_
    refine XS.aloadN X88.here hx rfl (hb hby d8_113) rfl rfl ?_
    show own_S p e below m T88 114 #[lvR o_, lvR b2, lvI (0 : Int32)] [(.ref o_), (.double cs0), (.double (FP.ddiv (FP.l2d fo0) (FP.l2d rel))), (.double (FP.ddiv (FP.l2d fo0) (FP.l2d be0))), (.double (FP.ddiv ps0 (FP.i2d qu))), (.double (FP.ddiv rh0 (FP.i2d qu))), (.double (FP.ddiv rs0 (FP.i2d qu))), (.int (1 : Int32)), (.ref b15), (.ref b15), (.ref b2)] _
    refine st94 _ ?_
    refine XS.i2dS X94.here hx rfl (hb hby d8_117) rfl rfl ?_
    refine XS.ddivS X94.here hx rfl (hb hby d8_118) rfl ncs0 rfl ?_
    show own_S p e below m T94 119 #[lvR o_, lvR b2, lvI (0 : Int32)] [(.double (FP.ddiv cs0 (FP.i2d qu))), (.double (FP.ddiv (FP.l2d fo0) (FP.l2d rel))), (.double (FP.ddiv (FP.l2d fo0) (FP.l2d be0))), (.double (FP.ddiv ps0 (FP.i2d qu))), (.double (FP.ddiv rh0 (FP.i2d qu))), (.double (FP.ddiv rs0 (FP.i2d qu))), (.int (1 : Int32)), (.ref b15), (.ref b15), (.ref b2)] _
    refine st95.trans ?_
    show own_S p e below m T95 122 #[lvR o_, lvR b2, lvI (0 : Int32)] [(.ref b15), (.ref b2)] _
    refine st98.trans ?_
    refine XS.pop X98.here hx rfl (hb hby d8_127) rfl rfl ?_
    refine XS.iinc X98.here hx rfl (hb hby d8_128) rfl (l' := #[lvR o_, lvR b2, lvI (1 : Int32)]) rfl ?_
    refine XS.goto X98.here hx rfl (pc0 := 131) (pc' := 27) rfl (hb hby d8_131) (by decide) (by decide) ?_
    refine XS.iloadN X98.here hx rfl (hb hby d8_27) rfl ?_
    refine XS.aloadN X98.here hx rfl (hb hby d8_28) rfl rfl ?_
    show own_S p e below m T98 29 #[lvR o_, lvR b2, lvI (1 : Int32)] [(.ref o_), (.int (1 : Int32))] _
    refine st120 _ ?_
    show own_S p e below m T120 32 #[lvR o_, lvR b2, lvI (1 : Int32)] [(.int (2 : Int32)), (.int (1 : Int32))] _
    refine XS.icmpNo X120.here hx rfl (hb hby d8_32) rfl (tlt (by decide : (1 : Int32) < (2 : Int32))).2.1 ?_
    refine XS.aloadN X120.here hx rfl (hb hby d8_35) rfl rfl ?_
    show own_S p e below m T120 36 #[lvR o_, lvR b2, lvI (1 : Int32)] [(.ref b2)] _
    refine st121 _ ?_
    refine XS.dup X121.here hx rfl (hb hby d8_39) rfl rfl ?_
    refine XS.iloadN X121.here hx rfl (hb hby d8_40) rfl ?_
    refine XS.iconst X121.here hx rfl (hb hby d8_41) ?_
    refine XS.iadd X121.here hx rfl (hb hby d8_42) rfl ?_
    refine XS.aloadN X121.here hx rfl (hb hby d8_43) rfl rfl ?_
    show own_S p e below m T121 44 #[lvR o_, lvR b2, lvI (1 : Int32)] [(.ref o_), (.int (2 : Int32)), (.ref b121), (.ref b121), (.ref b2)] _
    refine st136 _ ?_
    refine XS.iloadN X136.here hx rfl (hb hby d8_47) rfl ?_
    show own_S p e below m T136 48 #[lvR o_, lvR b2, lvI (1 : Int32)] [(.int (1 : Int32)), (.ref aR), (.int (2 : Int32)), (.ref b121), (.ref b121), (.ref b2)] _
    refine X136.daload hx (j := (1 : Int32)) (v := (.double rs1)) (by rw [e136]; exact r141.1) (State.isArrayOf_alike hZ.alike r141.2.1) r141.2.2 hin141 hat141 (g := (mkF m 48 #[lvR o_, lvR b2, lvI (1 : Int32)] [(.int (1 : Int32)), (.ref aR), (.int (2 : Int32)), (.ref b121), (.ref b121), (.ref b2)])) rfl rfl (hb hby d8_48) _ ?_
    refine XS.aloadN X136.here hx rfl (hb hby d8_49) rfl rfl ?_
    show own_S p e below m T136 50 #[lvR o_, lvR b2, lvI (1 : Int32)] [(.ref o_), (.double rs1), (.int (2 : Int32)), (.ref b121), (.ref b121), (.ref b2)] _
    refine st145 _ ?_
    refine XS.i2dS X145.here hx rfl (hb hby d8_53) rfl rfl ?_
    refine XS.ddivS X145.here hx rfl (hb hby d8_54) rfl nrs1 rfl ?_
    refine XS.aloadN X145.here hx rfl (hb hby d8_55) rfl rfl ?_
    show own_S p e below m T145 56 #[lvR o_, lvR b2, lvI (1 : Int32)] [(.ref o_), (.double (FP.ddiv rs1 (FP.i2d qu))), (.int (2 : Int32)), (.ref b121), (.ref b121), (.ref b2)] _
    refine st149 _ ?_
    refine XS.iloadN X149.here hx rfl (hb hby d8_59) rfl ?_
    show own_S p e below m T149 60 #[lvR o_, lvR b2, lvI (1 : Int32)] [(.int (1 : Int32)), (.ref aH), (.double (FP.ddiv rs1 (FP.i2d qu))), (.int (2 : Int32)), (.ref b121), (.ref b121), (.ref b2)] _
    refine X149.daload hx (j := (1 : Int32)) (v := (.double rh1)) (by rw [e149]; exact r154.1) (State.isArrayOf_alike hZ.alike r154.2.1) r154.2.2 hin154 hat154 (g := (mkF m 60 #[lvR o_, lvR b2, lvI (1 : Int32)] [(.int (1 : Int32)), (.ref aH), (.double (FP.ddiv rs1 (FP.i2d qu))), (.int (2 : Int32)), (.ref b121), (.ref b121), (.ref b2)])) rfl rfl (hb hby d8_60) _ ?_
    refine XS.aloadN X149.here hx rfl (hb hby d8_61) rfl rfl ?_
    show own_S p e below m T149 62 #[lvR o_, lvR b2, lvI (1 : Int32)] [(.ref o_), (.double rh1), (.double (FP.ddiv rs1 (FP.i2d qu))), (.int (2 : Int32)), (.ref b121), (.ref b121), (.ref b2)] _
    refine st155 _ ?_
    refine XS.i2dS X155.here hx rfl (hb hby d8_65) rfl rfl ?_
    refine XS.ddivS X155.here hx rfl (hb hby d8_66) rfl nrh1 rfl ?_
    refine XS.aloadN X155.here hx rfl (hb hby d8_67) rfl rfl ?_
    show own_S p e below m T155 68 #[lvR o_, lvR b2, lvI (1 : Int32)] [(.ref o_), (.double (FP.ddiv rh1 (FP.i2d qu))), (.double (FP.ddiv rs1 (FP.i2d qu))), (.int (2 : Int32)), (.ref b121), (.ref b121), (.ref b2)] _
    refine st159 _ ?_
    refine XS.iloadN X159.here hx rfl (hb hby d8_71) rfl ?_
    show own_S p e below m T159 72 #[lvR o_, lvR b2, lvI (1 : Int32)] [(.int (1 : Int32)), (.ref aP), (.double (FP.ddiv rh1 (FP.i2d qu))), (.double (FP.ddiv rs1 (FP.i2d qu))), (.int (2 : Int32)), (.ref b121), (.ref b121), (.ref b2)] _
    refine X159.daload hx (j := (1 : Int32)) (v := (.double ps1)) (by rw [e159]; exact r164.1) (State.isArrayOf_alike hZ.alike r164.2.1) r164.2.2 hin164 hat164 (g := (mkF m 72 #[lvR o_, lvR b2, lvI (1 : Int32)] [(.int (1 : Int32)), (.ref aP), (.double (FP.ddiv rh1 (FP.i2d qu))), (.double (FP.ddiv rs1 (FP.i2d qu))), (.int (2 : Int32)), (.ref b121), (.ref b121), (.ref b2)])) rfl rfl (hb hby d8_72) _ ?_
    refine XS.aloadN X159.here hx rfl (hb hby d8_73) rfl rfl ?_
    show own_S p e below m T159 74 #[lvR o_, lvR b2, lvI (1 : Int32)] [(.ref o_), (.double ps1), (.double (FP.ddiv rh1 (FP.i2d qu))), (.double (FP.ddiv rs1 (FP.i2d qu))), (.int (2 : Int32)), (.ref b121), (.ref b121), (.ref b2)] _
    refine st165 _ ?_
    refine XS.i2dS X165.here hx rfl (hb hby d8_77) rfl rfl ?_
    refine XS.ddivS X165.here hx rfl (hb hby d8_78) rfl nps1 rfl ?_
    refine XS.aloadN X165.here hx rfl (hb hby d8_79) rfl rfl ?_
    show own_S p e below m T165 80 #[lvR o_, lvR b2, lvI (1 : Int32)] [(.ref o_), (.double (FP.ddiv ps1 (FP.i2d qu))), (.double (FP.ddiv rh1 (FP.i2d qu))), (.double (FP.ddiv rs1 (FP.i2d qu))), (.int (2 : Int32)), (.ref b121), (.ref b121), (.ref b2)] _
    refine st169 _ ?_
    refine XS.iloadN X169.here hx rfl (hb hby d8_83) rfl ?_
    show own_S p e below m T169 84 #[lvR o_, lvR b2, lvI (1 : Int32)] [(.int (1 : Int32)), (.ref aF), (.double (FP.ddiv ps1 (FP.i2d qu))), (.double (FP.ddiv rh1 (FP.i2d qu))), (.double (FP.ddiv rs1 (FP.i2d qu))), (.int (2 : Int32)), (.ref b121), (.ref b121), (.ref b2)] _
    refine X169.laload hx (j := (1 : Int32)) (v := (.long fo1)) (by rw [e169]; exact r174.1) (State.isArrayOf_alike hZ.alike r174.2.1) r174.2.2 hin174 hat174 (g := (mkF m 84 #[lvR o_, lvR b2, lvI (1 : Int32)] [(.int (1 : Int32)), (.ref aF), (.double (FP.ddiv ps1 (FP.i2d qu))), (.double (FP.ddiv rh1 (FP.i2d qu))), (.double (FP.ddiv rs1 (FP.i2d qu))), (.int (2 : Int32)), (.ref b121), (.ref b121), (.ref b2)])) rfl rfl (hb hby d8_84) _ ?_
    refine XS.l2dS X169.here hx rfl (hb hby d8_85) rfl rfl ?_
    refine XS.aloadN X169.here hx rfl (hb hby d8_86) rfl rfl ?_
    show own_S p e below m T169 87 #[lvR o_, lvR b2, lvI (1 : Int32)] [(.ref o_), (.double (FP.l2d fo1)), (.double (FP.ddiv ps1 (FP.i2d qu))), (.double (FP.ddiv rh1 (FP.i2d qu))), (.double (FP.ddiv rs1 (FP.i2d qu))), (.int (2 : Int32)), (.ref b121), (.ref b121), (.ref b2)] _
    refine st178 _ ?_
    refine XS.iloadN X178.here hx rfl (hb hby d8_90) rfl ?_
    show own_S p e below m T178 91 #[lvR o_, lvR b2, lvI (1 : Int32)] [(.int (1 : Int32)), (.ref aB), (.double (FP.l2d fo1)), (.double (FP.ddiv ps1 (FP.i2d qu))), (.double (FP.ddiv rh1 (FP.i2d qu))), (.double (FP.ddiv rs1 (FP.i2d qu))), (.int (2 : Int32)), (.ref b121), (.ref b121), (.ref b2)] _
    refine X178.laload hx (j := (1 : Int32)) (v := (.long be1)) (by rw [e178]; exact r183.1) (State.isArrayOf_alike hZ.alike r183.2.1) r183.2.2 hin183 hat183 (g := (mkF m 91 #[lvR o_, lvR b2, lvI (1 : Int32)] [(.int (1 : Int32)), (.ref aB), (.double (FP.l2d fo1)), (.double (FP.ddiv ps1 (FP.i2d qu))), (.double (FP.ddiv rh1 (FP.i2d qu))), (.double (FP.ddiv rs1 (FP.i2d qu))), (.int (2 : Int32)), (.ref b121), (.ref b121), (.ref b2)])) rfl rfl (hb hby d8_91) _ ?_
    refine XS.l2dS X178.here hx rfl (hb hby d8_92) rfl rfl ?_
    refine XS.ddivS X178.here hx rfl (hb hby d8_93) rfl na1 rfl ?_
    refine XS.aloadN X178.here hx rfl (hb hby d8_94) rfl rfl ?_
    show own_S p e below m T178 95 #[lvR o_, lvR b2, lvI (1 : Int32)] [(.ref o_), (.double (FP.ddiv (FP.l2d fo1) (FP.l2d be1))), (.double (FP.ddiv ps1 (FP.i2d qu))), (.double (FP.ddiv rh1 (FP.i2d qu))), (.double (FP.ddiv rs1 (FP.i2d qu))), (.int (2 : Int32)), (.ref b121), (.ref b121), (.ref b2)] _
    refine st184 _ ?_
    refine XS.iloadN X184.here hx rfl (hb hby d8_98) rfl ?_
    show own_S p e below m T184 99 #[lvR o_, lvR b2, lvI (1 : Int32)] [(.int (1 : Int32)), (.ref aF), (.double (FP.ddiv (FP.l2d fo1) (FP.l2d be1))), (.double (FP.ddiv ps1 (FP.i2d qu))), (.double (FP.ddiv rh1 (FP.i2d qu))), (.double (FP.ddiv rs1 (FP.i2d qu))), (.int (2 : Int32)), (.ref b121), (.ref b121), (.ref b2)] _
    refine X184.laload hx (j := (1 : Int32)) (v := (.long fo1)) (by rw [e184]; exact r185.1) (State.isArrayOf_alike hZ.alike r185.2.1) r185.2.2 hin185 hat185 (g := (mkF m 99 #[lvR o_, lvR b2, lvI (1 : Int32)] [(.int (1 : Int32)), (.ref aF), (.double (FP.ddiv (FP.l2d fo1) (FP.l2d be1))), (.double (FP.ddiv ps1 (FP.i2d qu))), (.double (FP.ddiv rh1 (FP.i2d qu))), (.double (FP.ddiv rs1 (FP.i2d qu))), (.int (2 : Int32)), (.ref b121), (.ref b121), (.ref b2)])) rfl rfl (hb hby d8_99) _ ?_
    refine XS.l2dS X184.here hx rfl (hb hby d8_100) rfl rfl ?_
    refine XS.aloadN X184.here hx rfl (hb hby d8_101) rfl rfl ?_
    show own_S p e below m T184 102 #[lvR o_, lvR b2, lvI (1 : Int32)] [(.ref o_), (.double (FP.l2d fo1)), (.double (FP.ddiv (FP.l2d fo1) (FP.l2d be1))), (.double (FP.ddiv ps1 (FP.i2d qu))), (.double (FP.ddiv rh1 (FP.i2d qu))), (.double (FP.ddiv rs1 (FP.i2d qu))), (.int (2 : Int32)), (.ref b121), (.ref b121), (.ref b2)] _
    refine st189 _ ?_
    refine XS.l2dS X189.here hx rfl (hb hby d8_105) rfl rfl ?_
    refine XS.ddivS X189.here hx rfl (hb hby d8_106) rfl ns1 rfl ?_
    refine XS.aloadN X189.here hx rfl (hb hby d8_107) rfl rfl ?_
    show own_S p e below m T189 108 #[lvR o_, lvR b2, lvI (1 : Int32)] [(.ref o_), (.double (FP.ddiv (FP.l2d fo1) (FP.l2d rel))), (.double (FP.ddiv (FP.l2d fo1) (FP.l2d be1))), (.double (FP.ddiv ps1 (FP.i2d qu))), (.double (FP.ddiv rh1 (FP.i2d qu))), (.double (FP.ddiv rs1 (FP.i2d qu))), (.int (2 : Int32)), (.ref b121), (.ref b121), (.ref b2)] _
    refine st193 _ ?_
    refine XS.iloadN X193.here hx rfl (hb hby d8_111) rfl ?_
    show own_S p e below m T193 112 #[lvR o_, lvR b2, lvI (1 : Int32)] [(.int (1 : Int32)), (.ref aC), (.double (FP.ddiv (FP.l2d fo1) (FP.l2d rel))), (.double (FP.ddiv (FP.l2d fo1) (FP.l2d be1))), (.double (FP.ddiv ps1 (FP.i2d qu))), (.double (FP.ddiv rh1 (FP.i2d qu))), (.double (FP.ddiv rs1 (FP.i2d qu))), (.int (2 : Int32)), (.ref b121), (.ref b121), (.ref b2)] _
    refine X193.daload hx (j := (1 : Int32)) (v := (.double cs1)) (by rw [e193]; exact r198.1) (State.isArrayOf_alike hZ.alike r198.2.1) r198.2.2 hin198 hat198 (g := (mkF m 112 #[lvR o_, lvR b2, lvI (1 : Int32)] [(.int (1 : Int32)), (.ref aC), (.double (FP.ddiv (FP.l2d fo1) (FP.l2d rel))), (.double (FP.ddiv (FP.l2d fo1) (FP.l2d be1))), (.double (FP.ddiv ps1 (FP.i2d qu))), (.double (FP.ddiv rh1 (FP.i2d qu))), (.double (FP.ddiv rs1 (FP.i2d qu))), (.int (2 : Int32)), (.ref b121), (.ref b121), (.ref b2)])) rfl rfl (hb hby d8_112) _ ?_
    refine XS.aloadN X193.here hx rfl (hb hby d8_113) rfl rfl ?_
    show own_S p e below m T193 114 #[lvR o_, lvR b2, lvI (1 : Int32)] [(.ref o_), (.double cs1), (.double (FP.ddiv (FP.l2d fo1) (FP.l2d rel))), (.double (FP.ddiv (FP.l2d fo1) (FP.l2d be1))), (.double (FP.ddiv ps1 (FP.i2d qu))), (.double (FP.ddiv rh1 (FP.i2d qu))), (.double (FP.ddiv rs1 (FP.i2d qu))), (.int (2 : Int32)), (.ref b121), (.ref b121), (.ref b2)] _
    refine st199 _ ?_
    refine XS.i2dS X199.here hx rfl (hb hby d8_117) rfl rfl ?_
    refine XS.ddivS X199.here hx rfl (hb hby d8_118) rfl ncs1 rfl ?_
    show own_S p e below m T199 119 #[lvR o_, lvR b2, lvI (1 : Int32)] [(.double (FP.ddiv cs1 (FP.i2d qu))), (.double (FP.ddiv (FP.l2d fo1) (FP.l2d rel))), (.double (FP.ddiv (FP.l2d fo1) (FP.l2d be1))), (.double (FP.ddiv ps1 (FP.i2d qu))), (.double (FP.ddiv rh1 (FP.i2d qu))), (.double (FP.ddiv rs1 (FP.i2d qu))), (.int (2 : Int32)), (.ref b121), (.ref b121), (.ref b2)] _
    refine st200.trans ?_
    show own_S p e below m T200 122 #[lvR o_, lvR b2, lvI (1 : Int32)] [(.ref b121), (.ref b2)] _
    refine st203.trans ?_
    refine XS.pop X203.here hx rfl (hb hby d8_127) rfl rfl ?_
    refine XS.iinc X203.here hx rfl (hb hby d8_128) rfl (l' := #[lvR o_, lvR b2, lvI (2 : Int32)]) rfl ?_
    refine XS.goto X203.here hx rfl (pc0 := 131) (pc' := 27) rfl (hb hby d8_131) (by decide) (by decide) ?_
    refine XS.iloadN X203.here hx rfl (hb hby d8_27) rfl ?_
    refine XS.aloadN X203.here hx rfl (hb hby d8_28) rfl rfl ?_
    show own_S p e below m T203 29 #[lvR o_, lvR b2, lvI (2 : Int32)] [(.ref o_), (.int (2 : Int32))] _
    refine st254 _ ?_
    show own_S p e below m T254 32 #[lvR o_, lvR b2, lvI (2 : Int32)] [(.int (2 : Int32)), (.int (2 : Int32))] _
    refine XS.icmpYes X254.here hx rfl (pc0 := 32) (pc' := 134) rfl (hb hby d8_32) rfl (flt (by decide : ¬ ((2 : Int32) < (2 : Int32)))).2.1 (by decide) (by decide) ?_
    refine XS.aloadN X254.here hx rfl (hb hby d8_134) rfl rfl ?_
    exact kt
  have f257 : Keep h0 h121 [] := f124.ext E121
  have f258 : Keep h0 h200 [] := f257.trans K200 (allS (Or.inr sz125) all0)
  have f259 : Keep h0 h203 [] := f258.trans K203 (allS (Or.inr sz4) (allS (Or.inr sz113) all0))
  have ne260 : b15 ≠ nnnnb8_2_3_9_98 := Nat.ne_of_lt (Nat.lt_of_lt_of_le g95_0.lt sznnnnb8_2_3_9_98)
  have f261 : Exa Z h203 b15 cn2 := f220.keep K203
  have f262 : Fld Z h203 b15 cn2 "n" "I" (.int (1 : Int32)) := f223.keep K203 (ninS (Ne.symm ne103) (ninS ne260 nin0))
  have f263 : Fld Z h203 b15 cn2 "r" "D" (.double (FP.ddiv rs0 (FP.i2d qu))) := f227.keep K203 (ninS (Ne.symm ne103) (ninS ne260 nin0))
  have f264 : Fld Z h203 b15 cn2 "rHat" "D" (.double (FP.ddiv rh0 (FP.i2d qu))) := f230.keep K203 (ninS (Ne.symm ne103) (ninS ne260 nin0))
  have f265 : Fld Z h203 b15 cn2 "p" "D" (.double (FP.ddiv ps0 (FP.i2d qu))) := f233.keep K203 (ninS (Ne.symm ne103) (ninS ne260 nin0))
  have f266 : Fld Z h203 b15 cn2 "accuracy" "D" (.double (FP.ddiv (FP.l2d fo0) (FP.l2d be0))) := f236.keep K203 (ninS (Ne.symm ne103) (ninS ne260 nin0))
  have f267 : Fld Z h203 b15 cn2 "share" "D" (.double (FP.ddiv (FP.l2d fo0) (FP.l2d rel))) := f239.keep K203 (ninS (Ne.symm ne103) (ninS ne260 nin0))
  have f268 : Fld Z h203 b15 cn2 "cp" "D" (.double (FP.ddiv cs0 (FP.i2d qu))) := f242.keep K203 (ninS (Ne.symm ne103) (ninS ne260 nin0))
  have f269 : Exa Z h203 b121 cn2 := g200_0.keep K203
  have f270 : Fld Z h203 b121 cn2 "n" "I" (.int (2 : Int32)) := g200_1.keep K203 (ninS (Ne.symm ne208) (ninS (Ne.symm ne215) nin0))
  have f271 : Fld Z h203 b121 cn2 "r" "D" (.double (FP.ddiv rs1 (FP.i2d qu))) := g200_2.keep K203 (ninS (Ne.symm ne208) (ninS (Ne.symm ne215) nin0))
  have f272 : Fld Z h203 b121 cn2 "rHat" "D" (.double (FP.ddiv rh1 (FP.i2d qu))) := g200_3.keep K203 (ninS (Ne.symm ne208) (ninS (Ne.symm ne215) nin0))
  have f273 : Fld Z h203 b121 cn2 "p" "D" (.double (FP.ddiv ps1 (FP.i2d qu))) := g200_4.keep K203 (ninS (Ne.symm ne208) (ninS (Ne.symm ne215) nin0))
  have f274 : Fld Z h203 b121 cn2 "accuracy" "D" (.double (FP.ddiv (FP.l2d fo1) (FP.l2d be1))) := g200_5.keep K203 (ninS (Ne.symm ne208) (ninS (Ne.symm ne215) nin0))
  have f275 : Fld Z h203 b121 cn2 "share" "D" (.double (FP.ddiv (FP.l2d fo1) (FP.l2d rel))) := g200_6.keep K203 (ninS (Ne.symm ne208) (ninS (Ne.symm ne215) nin0))
  have f276 : Fld Z h203 b121 cn2 "cp" "D" (.double (FP.ddiv cs1 (FP.i2d qu))) := g200_7.keep K203 (ninS (Ne.symm ne208) (ninS (Ne.symm ne215) nin0))
  obtain ⟨fs, hr, hrun, hended, hW, hsame⟩ := X254.leave (v := some (.ref b2)) (fun h => by rw [Bd.returns] at h; cases h)
  refine ⟨_, _, hG _ (pre255 _ (retOut X254 hx Bd.returns rfl (Or.inr (Or.inr (Or.inr (Or.inr ⟨rfl, rfl, rfl⟩)))) (hb hby d8_135) hr)), hrun, hended, _, _, rfl, ?_, ⟨_, rfl⟩, hW, hsame.mono (by decide) (by decide)⟩
  show QRows Z o_ qu rel aR kaR rs0 rs1 aH kaH rh0 rh1 aP kaP ps0 ps1 aC kaC cs0 cs1 aF kaF fo0 fo1 aB kaB be0 be1 w_DEFAULTCAPACITY_EMPTY_ELEMENTDATA w_EMPTY_ELEMENTDATA k_w_EMPTY_ELEMENTDATA k_w_DEFAULTCAPACITY_EMPTY_ELEMENTDATA h0 n0 _ T254.heap _
  rw [e254]
  exact ⟨k8_2_3_9_98, b2, nnnnb8_2_3_9_98, b15, b121, rfl, N245, f259, sz4, sz113, sz20, sz125, ne243, ne103, ne208, (Ne.symm ne260), ne215, ne224, g203_0, g203_1, g203_2, g203_3, f261, f262, f263, f264, f265, f266, f267, f268, g203_4, g203_5, f269, f270, f271, f272, f273, f274, f275, f276⟩
theorem d18_0 : decode prog_42_method_6_code 0 = .ok (.aload_n 0, 1) := by decide +kernel
theorem d18_1 : decode prog_42_method_6_code 1 = .ok (.getfield 13, 3) := by decide +kernel
theorem d18_4 : decode prog_42_method_6_code 4 = .ok (.dreturn, 1) := by decide +kernel
theorem efRowr (m : MethodId) (o_ : Addr) : entryFrame m #[(.ref o_)] 1 = mkF m 0 #[lvR o_] [] := by first | (simp [entryFrame, mkF, argsToLocals, Value.category]; done) | rfl
def QRowr (Z : State) (o_ : Addr) (v_ : UInt64) (h0 : Heap) (n0 : Nat) (v : Option Value) (h : Heap) (L : List Loc) : Prop := v = some (.double v_) ∧ Fr n0 L ∧ h = h0
set_option maxRecDepth 65536 in
set_option maxHeartbeats 40000000 in
theorem rmRowr (l : Launch) (Z : State) (a0 : Array Value) (hw : ∀ d ∈ tables_1, d.before a0 Z = true) (ws : List Jvm.Cond) (o_ : Addr) (v_ : UInt64) (h0 : Heap) (n0 : Nat) (O0 : Old Z n0 h0) (P0 : Fld Z h0 o_ cn2 "r" "D" (.double v_)) :
    MetFree l (⟨"com/example/shortlist/shortlist/SelectionMeasures$Row", "r", "()D"⟩ : MethodName) (head1 (Jvm.Cond.code (⟨"com/example/shortlist/shortlist/SelectionMeasures$Row", "r", "()D"⟩ : MethodName) prog_42_method_6_code 1 (some .double) :: ws) ({ frames := 0, cells := 0, slots := 0, locals := 0 } : Room)) (fun a U => a = #[(.ref o_)] ∧ Z.Warmed39 U.vm ∧ U.heap = h0) (fun _ _ _ _ _ => True) (fun _ U o U' => ∃ v L, o = .returned v ∧ QRowr Z o_ v_ h0 n0 v U'.heap L ∧ FrameEnd U o U' L ({ frames := 0, cells := 0, slots := 0, locals := 0 } : Room).cells ({ frames := 0, cells := 0, slots := 0, locals := 0 } : Room).slots) := by
  refine MetFree.of_bodySF (plainFor_of_name pn_7) hisR ?_
  intro p e s m args below meth c s₁ Bd hml0 hP hK
  obtain ⟨rfl, hZ, hh⟩ := hP
  have hx := Bd.exec
  have hby := Bd.bytes
  have hml : c.maxLocals = 1 := hml0
  have hown : s.vm.findClass "com/example/shortlist/shortlist/SelectionMeasures$Row" = some m.cls := findClass_of_methodNamed Bd.named
  have hnm := (name_of_methodNamed Bd.named Bd.method).1
  have X0 : Stand p l e ({ frames := 0, cells := 0, slots := 0, locals := 0 } : Room) s m #[(.ref o_)] below meth c s₁ [] 0 0 := Stand.of_body Bd
  have e0 : s₁.heap = h0 := by rw [← hh, Bd.state]; rfl
  have N0 := Fr.nil n0
  obtain ⟨G, pre0, hG⟩ : ∃ G : State → Prop, (∀ t, own_S p e below m s₁ 0 #[lvR o_] [] t → G t) ∧ (∀ t, G t → Steps p.tables e below (s₁.setTop (entryFrame m #[(.ref o_)] 1)) t) := ⟨fun t => Steps p.tables e below (s₁.setTop (entryFrame m #[(.ref o_)] 1)) t, fun t k => castTop (efRowr m o_) k, fun _ k => k⟩
  have K0 : Keep h0 h0 [] := Keep.refl _ _
  obtain ⟨T1, X1, e1, st1⟩ := getF X0 hx hZ hown (host := "") (Or.inl (own_w hw 105 rfl)) Via.refl e0 P0 (g := (mkF m 1 #[lvR o_] [(.ref o_)])) rfl rfl (hb hby d18_1)
  have pre2 : ∀ t, own_S p e below m T1 4 #[lvR o_] [(.double v_)] t → G t := by
    intro t kt
    refine pre0 t ?_
    show own_S p e below m s₁ 0 #[lvR o_] [] _
    refine XS.aloadN X0.here hx rfl (hb hby d18_0) rfl rfl ?_
    show own_S p e below m s₁ 1 #[lvR o_] [(.ref o_)] _
    refine st1 _ ?_
    exact kt
  obtain ⟨fs, hr, hrun, hended, hW, hsame⟩ := X1.leave (v := some (.double v_)) (fun h => by rw [Bd.returns] at h; cases h)
  refine ⟨_, _, hG _ (pre2 _ (retOut X1 hx Bd.returns rfl (Or.inr (Or.inr (Or.inl ⟨rfl, rfl, _, rfl⟩))) (hb hby d18_4) hr)), hrun, hended, _, _, rfl, ?_, ⟨_, rfl⟩, hW, hsame.mono (by decide) (by decide)⟩
  show QRowr Z o_ v_ h0 n0 _ T1.heap _
  rw [e1]
  exact ⟨rfl, N0, rfl⟩
theorem d19_0 : decode prog_42_method_7_code 0 = .ok (.aload_n 0, 1) := by decide +kernel
theorem d19_1 : decode prog_42_method_7_code 1 = .ok (.getfield 17, 3) := by decide +kernel
theorem d19_4 : decode prog_42_method_7_code 4 = .ok (.dreturn, 1) := by decide +kernel
theorem efRowrHat (m : MethodId) (o_ : Addr) : entryFrame m #[(.ref o_)] 1 = mkF m 0 #[lvR o_] [] := by first | (simp [entryFrame, mkF, argsToLocals, Value.category]; done) | rfl
def QRowrHat (Z : State) (o_ : Addr) (v_ : UInt64) (h0 : Heap) (n0 : Nat) (v : Option Value) (h : Heap) (L : List Loc) : Prop := v = some (.double v_) ∧ Fr n0 L ∧ h = h0
abbrev mn6 : MethodName := ⟨"com/example/shortlist/shortlist/SelectionMeasures$Row", "rHat", "()D"⟩
set_option maxRecDepth 65536 in
set_option maxHeartbeats 40000000 in
theorem rmRowrHat (l : Launch) (Z : State) (a0 : Array Value) (hw : ∀ d ∈ tables_1, d.before a0 Z = true) (ws : List Jvm.Cond) (o_ : Addr) (v_ : UInt64) (h0 : Heap) (n0 : Nat) (O0 : Old Z n0 h0) (P0 : Fld Z h0 o_ cn2 "rHat" "D" (.double v_)) :
    MetFree l mn6 (head1 (Jvm.Cond.code mn6 prog_42_method_7_code 1 (some .double) :: ws) ({ frames := 0, cells := 0, slots := 0, locals := 0 } : Room)) (fun a U => a = #[(.ref o_)] ∧ Z.Warmed39 U.vm ∧ U.heap = h0) (fun _ _ _ _ _ => True) (fun _ U o U' => ∃ v L, o = .returned v ∧ QRowrHat Z o_ v_ h0 n0 v U'.heap L ∧ FrameEnd U o U' L ({ frames := 0, cells := 0, slots := 0, locals := 0 } : Room).cells ({ frames := 0, cells := 0, slots := 0, locals := 0 } : Room).slots) := by
  refine MetFree.of_bodySF (plainFor_of_name pn_7) hisR ?_
  intro p e s m args below meth c s₁ Bd hml0 hP hK
  obtain ⟨rfl, hZ, hh⟩ := hP
  have hx := Bd.exec
  have hby := Bd.bytes
  have hml : c.maxLocals = 1 := hml0
  have hown : s.vm.findClass "com/example/shortlist/shortlist/SelectionMeasures$Row" = some m.cls := findClass_of_methodNamed Bd.named
  have hnm := (name_of_methodNamed Bd.named Bd.method).1
  have X0 : Stand p l e ({ frames := 0, cells := 0, slots := 0, locals := 0 } : Room) s m #[(.ref o_)] below meth c s₁ [] 0 0 := Stand.of_body Bd
  have e0 : s₁.heap = h0 := by rw [← hh, Bd.state]; rfl
  have N0 := Fr.nil n0
  obtain ⟨G, pre0, hG⟩ : ∃ G : State → Prop, (∀ t, own_S p e below m s₁ 0 #[lvR o_] [] t → G t) ∧ (∀ t, G t → Steps p.tables e below (s₁.setTop (entryFrame m #[(.ref o_)] 1)) t) := ⟨fun t => Steps p.tables e below (s₁.setTop (entryFrame m #[(.ref o_)] 1)) t, fun t k => castTop (efRowrHat m o_) k, fun _ k => k⟩
  have K0 : Keep h0 h0 [] := Keep.refl _ _
  obtain ⟨T1, X1, e1, st1⟩ := getF X0 hx hZ hown (host := "") (Or.inl (own_w hw 107 rfl)) Via.refl e0 P0 (g := (mkF m 1 #[lvR o_] [(.ref o_)])) rfl rfl (hb hby d19_1)
  have pre2 : ∀ t, own_S p e below m T1 4 #[lvR o_] [(.double v_)] t → G t := by
    intro t kt
    refine pre0 t ?_
    show own_S p e below m s₁ 0 #[lvR o_] [] _
    refine XS.aloadN X0.here hx rfl (hb hby d19_0) rfl rfl ?_
    show own_S p e below m s₁ 1 #[lvR o_] [(.ref o_)] _
    refine st1 _ ?_
    exact kt
  obtain ⟨fs, hr, hrun, hended, hW, hsame⟩ := X1.leave (v := some (.double v_)) (fun h => by rw [Bd.returns] at h; cases h)
  refine ⟨_, _, hG _ (pre2 _ (retOut X1 hx Bd.returns rfl (Or.inr (Or.inr (Or.inl ⟨rfl, rfl, _, rfl⟩))) (hb hby d19_4) hr)), hrun, hended, _, _, rfl, ?_, ⟨_, rfl⟩, hW, hsame.mono (by decide) (by decide)⟩
  show QRowrHat Z o_ v_ h0 n0 _ T1.heap _
  rw [e1]
  exact ⟨rfl, N0, rfl⟩
theorem d20_0 : decode prog_42_method_8_code 0 = .ok (.aload_n 0, 1) := by decide +kernel
theorem d20_1 : decode prog_42_method_8_code 1 = .ok (.getfield 20, 3) := by decide +kernel
theorem d20_4 : decode prog_42_method_8_code 4 = .ok (.dreturn, 1) := by decide +kernel
theorem efRowp (m : MethodId) (o_ : Addr) : entryFrame m #[(.ref o_)] 1 = mkF m 0 #[lvR o_] [] := by first | (simp [entryFrame, mkF, argsToLocals, Value.category]; done) | rfl
def QRowp (Z : State) (o_ : Addr) (v_ : UInt64) (h0 : Heap) (n0 : Nat) (v : Option Value) (h : Heap) (L : List Loc) : Prop := v = some (.double v_) ∧ Fr n0 L ∧ h = h0
set_option maxRecDepth 65536 in
set_option maxHeartbeats 40000000 in
theorem rmRowp (l : Launch) (Z : State) (a0 : Array Value) (hw : ∀ d ∈ tables_1, d.before a0 Z = true) (ws : List Jvm.Cond) (o_ : Addr) (v_ : UInt64) (h0 : Heap) (n0 : Nat) (O0 : Old Z n0 h0) (P0 : Fld Z h0 o_ cn2 "p" "D" (.double v_)) :
    MetFree l (⟨"com/example/shortlist/shortlist/SelectionMeasures$Row", "p", "()D"⟩ : MethodName) (head1 (Jvm.Cond.code (⟨"com/example/shortlist/shortlist/SelectionMeasures$Row", "p", "()D"⟩ : MethodName) prog_42_method_8_code 1 (some .double) :: ws) ({ frames := 0, cells := 0, slots := 0, locals := 0 } : Room)) (fun a U => a = #[(.ref o_)] ∧ Z.Warmed39 U.vm ∧ U.heap = h0) (fun _ _ _ _ _ => True) (fun _ U o U' => ∃ v L, o = .returned v ∧ QRowp Z o_ v_ h0 n0 v U'.heap L ∧ FrameEnd U o U' L ({ frames := 0, cells := 0, slots := 0, locals := 0 } : Room).cells ({ frames := 0, cells := 0, slots := 0, locals := 0 } : Room).slots) := by
  refine MetFree.of_bodySF (plainFor_of_name pn_7) hisR ?_
  intro p e s m args below meth c s₁ Bd hml0 hP hK
  obtain ⟨rfl, hZ, hh⟩ := hP
  have hx := Bd.exec
  have hby := Bd.bytes
  have hml : c.maxLocals = 1 := hml0
  have hown : s.vm.findClass "com/example/shortlist/shortlist/SelectionMeasures$Row" = some m.cls := findClass_of_methodNamed Bd.named
  have hnm := (name_of_methodNamed Bd.named Bd.method).1
  have X0 : Stand p l e ({ frames := 0, cells := 0, slots := 0, locals := 0 } : Room) s m #[(.ref o_)] below meth c s₁ [] 0 0 := Stand.of_body Bd
  have e0 : s₁.heap = h0 := by rw [← hh, Bd.state]; rfl
  have N0 := Fr.nil n0
  obtain ⟨G, pre0, hG⟩ : ∃ G : State → Prop, (∀ t, own_S p e below m s₁ 0 #[lvR o_] [] t → G t) ∧ (∀ t, G t → Steps p.tables e below (s₁.setTop (entryFrame m #[(.ref o_)] 1)) t) := ⟨fun t => Steps p.tables e below (s₁.setTop (entryFrame m #[(.ref o_)] 1)) t, fun t k => castTop (efRowp m o_) k, fun _ k => k⟩
  have K0 : Keep h0 h0 [] := Keep.refl _ _
  obtain ⟨T1, X1, e1, st1⟩ := getF X0 hx hZ hown (host := "") (Or.inl (own_w hw 109 rfl)) Via.refl e0 P0 (g := (mkF m 1 #[lvR o_] [(.ref o_)])) rfl rfl (hb hby d20_1)
  have pre2 : ∀ t, own_S p e below m T1 4 #[lvR o_] [(.double v_)] t → G t := by
    intro t kt
    refine pre0 t ?_
    show own_S p e below m s₁ 0 #[lvR o_] [] _
    refine XS.aloadN X0.here hx rfl (hb hby d20_0) rfl rfl ?_
    show own_S p e below m s₁ 1 #[lvR o_] [(.ref o_)] _
    refine st1 _ ?_
    exact kt
  obtain ⟨fs, hr, hrun, hended, hW, hsame⟩ := X1.leave (v := some (.double v_)) (fun h => by rw [Bd.returns] at h; cases h)
  refine ⟨_, _, hG _ (pre2 _ (retOut X1 hx Bd.returns rfl (Or.inr (Or.inr (Or.inl ⟨rfl, rfl, _, rfl⟩))) (hb hby d20_4) hr)), hrun, hended, _, _, rfl, ?_, ⟨_, rfl⟩, hW, hsame.mono (by decide) (by decide)⟩
  show QRowp Z o_ v_ h0 n0 _ T1.heap _
  rw [e1]
  exact ⟨rfl, N0, rfl⟩
theorem d21_0 : decode prog_42_method_11_code 0 = .ok (.aload_n 0, 1) := by decide +kernel
theorem d21_1 : decode prog_42_method_11_code 1 = .ok (.getfield 29, 3) := by decide +kernel
theorem d21_4 : decode prog_42_method_11_code 4 = .ok (.dreturn, 1) := by decide +kernel
theorem efRowcp (m : MethodId) (o_ : Addr) : entryFrame m #[(.ref o_)] 1 = mkF m 0 #[lvR o_] [] := by first | (simp [entryFrame, mkF, argsToLocals, Value.category]; done) | rfl
def QRowcp (Z : State) (o_ : Addr) (v_ : UInt64) (h0 : Heap) (n0 : Nat) (v : Option Value) (h : Heap) (L : List Loc) : Prop := v = some (.double v_) ∧ Fr n0 L ∧ h = h0
set_option maxRecDepth 65536 in
set_option maxHeartbeats 40000000 in
theorem rmRowcp (l : Launch) (Z : State) (a0 : Array Value) (hw : ∀ d ∈ tables_1, d.before a0 Z = true) (ws : List Jvm.Cond) (o_ : Addr) (v_ : UInt64) (h0 : Heap) (n0 : Nat) (O0 : Old Z n0 h0) (P0 : Fld Z h0 o_ cn2 "cp" "D" (.double v_)) :
    MetFree l (⟨"com/example/shortlist/shortlist/SelectionMeasures$Row", "cp", "()D"⟩ : MethodName) (head1 (Jvm.Cond.code (⟨"com/example/shortlist/shortlist/SelectionMeasures$Row", "cp", "()D"⟩ : MethodName) prog_42_method_11_code 1 (some .double) :: ws) ({ frames := 0, cells := 0, slots := 0, locals := 0 } : Room)) (fun a U => a = #[(.ref o_)] ∧ Z.Warmed39 U.vm ∧ U.heap = h0) (fun _ _ _ _ _ => True) (fun _ U o U' => ∃ v L, o = .returned v ∧ QRowcp Z o_ v_ h0 n0 v U'.heap L ∧ FrameEnd U o U' L ({ frames := 0, cells := 0, slots := 0, locals := 0 } : Room).cells ({ frames := 0, cells := 0, slots := 0, locals := 0 } : Room).slots) := by
  refine MetFree.of_bodySF (plainFor_of_name pn_7) hisR ?_
  intro p e s m args below meth c s₁ Bd hml0 hP hK
  obtain ⟨rfl, hZ, hh⟩ := hP
  have hx := Bd.exec
  have hby := Bd.bytes
  have hml : c.maxLocals = 1 := hml0
  have hown : s.vm.findClass "com/example/shortlist/shortlist/SelectionMeasures$Row" = some m.cls := findClass_of_methodNamed Bd.named
  have hnm := (name_of_methodNamed Bd.named Bd.method).1
  have X0 : Stand p l e ({ frames := 0, cells := 0, slots := 0, locals := 0 } : Room) s m #[(.ref o_)] below meth c s₁ [] 0 0 := Stand.of_body Bd
  have e0 : s₁.heap = h0 := by rw [← hh, Bd.state]; rfl
  have N0 := Fr.nil n0
  obtain ⟨G, pre0, hG⟩ : ∃ G : State → Prop, (∀ t, own_S p e below m s₁ 0 #[lvR o_] [] t → G t) ∧ (∀ t, G t → Steps p.tables e below (s₁.setTop (entryFrame m #[(.ref o_)] 1)) t) := ⟨fun t => Steps p.tables e below (s₁.setTop (entryFrame m #[(.ref o_)] 1)) t, fun t k => castTop (efRowcp m o_) k, fun _ k => k⟩
  have K0 : Keep h0 h0 [] := Keep.refl _ _
  obtain ⟨T1, X1, e1, st1⟩ := getF X0 hx hZ hown (host := "") (Or.inl (own_w hw 115 rfl)) Via.refl e0 P0 (g := (mkF m 1 #[lvR o_] [(.ref o_)])) rfl rfl (hb hby d21_1)
  have pre2 : ∀ t, own_S p e below m T1 4 #[lvR o_] [(.double v_)] t → G t := by
    intro t kt
    refine pre0 t ?_
    show own_S p e below m s₁ 0 #[lvR o_] [] _
    refine XS.aloadN X0.here hx rfl (hb hby d21_0) rfl rfl ?_
    show own_S p e below m s₁ 1 #[lvR o_] [(.ref o_)] _
    refine st1 _ ?_
    exact kt
  obtain ⟨fs, hr, hrun, hended, hW, hsame⟩ := X1.leave (v := some (.double v_)) (fun h => by rw [Bd.returns] at h; cases h)
  refine ⟨_, _, hG _ (pre2 _ (retOut X1 hx Bd.returns rfl (Or.inr (Or.inr (Or.inl ⟨rfl, rfl, _, rfl⟩))) (hb hby d21_4) hr)), hrun, hended, _, _, rfl, ?_, ⟨_, rfl⟩, hW, hsame.mono (by decide) (by decide)⟩
  show QRowcp Z o_ v_ h0 n0 _ T1.heap _
  rw [e1]
  exact ⟨rfl, N0, rfl⟩
theorem d22_0 : decode prog_42_method_9_code 0 = .ok (.aload_n 0, 1) := by decide +kernel
theorem d22_1 : decode prog_42_method_9_code 1 = .ok (.getfield 23, 3) := by decide +kernel
theorem d22_4 : decode prog_42_method_9_code 4 = .ok (.dreturn, 1) := by decide +kernel
theorem efRowaccuracy (m : MethodId) (o_ : Addr) : entryFrame m #[(.ref o_)] 1 = mkF m 0 #[lvR o_] [] := by first | (simp [entryFrame, mkF, argsToLocals, Value.category]; done) | rfl
def QRowaccuracy (Z : State) (o_ : Addr) (v_ : UInt64) (h0 : Heap) (n0 : Nat) (v : Option Value) (h : Heap) (L : List Loc) : Prop := v = some (.double v_) ∧ Fr n0 L ∧ h = h0
abbrev mn7 : MethodName := ⟨"com/example/shortlist/shortlist/SelectionMeasures$Row", "accuracy", "()D"⟩
set_option maxRecDepth 65536 in
set_option maxHeartbeats 40000000 in
theorem rmRowaccuracy (l : Launch) (Z : State) (a0 : Array Value) (hw : ∀ d ∈ tables_1, d.before a0 Z = true) (ws : List Jvm.Cond) (o_ : Addr) (v_ : UInt64) (h0 : Heap) (n0 : Nat) (O0 : Old Z n0 h0) (P0 : Fld Z h0 o_ cn2 "accuracy" "D" (.double v_)) :
    MetFree l mn7 (head1 (Jvm.Cond.code mn7 prog_42_method_9_code 1 (some .double) :: ws) ({ frames := 0, cells := 0, slots := 0, locals := 0 } : Room)) (fun a U => a = #[(.ref o_)] ∧ Z.Warmed39 U.vm ∧ U.heap = h0) (fun _ _ _ _ _ => True) (fun _ U o U' => ∃ v L, o = .returned v ∧ QRowaccuracy Z o_ v_ h0 n0 v U'.heap L ∧ FrameEnd U o U' L ({ frames := 0, cells := 0, slots := 0, locals := 0 } : Room).cells ({ frames := 0, cells := 0, slots := 0, locals := 0 } : Room).slots) := by
  refine MetFree.of_bodySF (plainFor_of_name pn_7) hisR ?_
  intro p e s m args below meth c s₁ Bd hml0 hP hK
  obtain ⟨rfl, hZ, hh⟩ := hP
  have hx := Bd.exec
  have hby := Bd.bytes
  have hml : c.maxLocals = 1 := hml0
  have hown : s.vm.findClass "com/example/shortlist/shortlist/SelectionMeasures$Row" = some m.cls := findClass_of_methodNamed Bd.named
  have hnm := (name_of_methodNamed Bd.named Bd.method).1
  have X0 : Stand p l e ({ frames := 0, cells := 0, slots := 0, locals := 0 } : Room) s m #[(.ref o_)] below meth c s₁ [] 0 0 := Stand.of_body Bd
  have e0 : s₁.heap = h0 := by rw [← hh, Bd.state]; rfl
  have N0 := Fr.nil n0
  obtain ⟨G, pre0, hG⟩ : ∃ G : State → Prop, (∀ t, own_S p e below m s₁ 0 #[lvR o_] [] t → G t) ∧ (∀ t, G t → Steps p.tables e below (s₁.setTop (entryFrame m #[(.ref o_)] 1)) t) := ⟨fun t => Steps p.tables e below (s₁.setTop (entryFrame m #[(.ref o_)] 1)) t, fun t k => castTop (efRowaccuracy m o_) k, fun _ k => k⟩
  have K0 : Keep h0 h0 [] := Keep.refl _ _
  obtain ⟨T1, X1, e1, st1⟩ := getF X0 hx hZ hown (host := "") (Or.inl (own_w hw 111 rfl)) Via.refl e0 P0 (g := (mkF m 1 #[lvR o_] [(.ref o_)])) rfl rfl (hb hby d22_1)
  have pre2 : ∀ t, own_S p e below m T1 4 #[lvR o_] [(.double v_)] t → G t := by
    intro t kt
    refine pre0 t ?_
    show own_S p e below m s₁ 0 #[lvR o_] [] _
    refine XS.aloadN X0.here hx rfl (hb hby d22_0) rfl rfl ?_
    show own_S p e below m s₁ 1 #[lvR o_] [(.ref o_)] _
    refine st1 _ ?_
    exact kt
  obtain ⟨fs, hr, hrun, hended, hW, hsame⟩ := X1.leave (v := some (.double v_)) (fun h => by rw [Bd.returns] at h; cases h)
  refine ⟨_, _, hG _ (pre2 _ (retOut X1 hx Bd.returns rfl (Or.inr (Or.inr (Or.inl ⟨rfl, rfl, _, rfl⟩))) (hb hby d22_4) hr)), hrun, hended, _, _, rfl, ?_, ⟨_, rfl⟩, hW, hsame.mono (by decide) (by decide)⟩
  show QRowaccuracy Z o_ v_ h0 n0 _ T1.heap _
  rw [e1]
  exact ⟨rfl, N0, rfl⟩
theorem d23_0 : decode prog_42_method_10_code 0 = .ok (.aload_n 0, 1) := by decide +kernel
theorem d23_1 : decode prog_42_method_10_code 1 = .ok (.getfield 26, 3) := by decide +kernel
theorem d23_4 : decode prog_42_method_10_code 4 = .ok (.dreturn, 1) := by decide +kernel
theorem efRowshare (m : MethodId) (o_ : Addr) : entryFrame m #[(.ref o_)] 1 = mkF m 0 #[lvR o_] [] := by first | (simp [entryFrame, mkF, argsToLocals, Value.category]; done) | rfl
def QRowshare (Z : State) (o_ : Addr) (v_ : UInt64) (h0 : Heap) (n0 : Nat) (v : Option Value) (h : Heap) (L : List Loc) : Prop := v = some (.double v_) ∧ Fr n0 L ∧ h = h0
abbrev mn8 : MethodName := ⟨"com/example/shortlist/shortlist/SelectionMeasures$Row", "share", "()D"⟩
set_option maxRecDepth 65536 in
set_option maxHeartbeats 40000000 in
theorem rmRowshare (l : Launch) (Z : State) (a0 : Array Value) (hw : ∀ d ∈ tables_1, d.before a0 Z = true) (ws : List Jvm.Cond) (o_ : Addr) (v_ : UInt64) (h0 : Heap) (n0 : Nat) (O0 : Old Z n0 h0) (P0 : Fld Z h0 o_ cn2 "share" "D" (.double v_)) :
    MetFree l mn8 (head1 (Jvm.Cond.code mn8 prog_42_method_10_code 1 (some .double) :: ws) ({ frames := 0, cells := 0, slots := 0, locals := 0 } : Room)) (fun a U => a = #[(.ref o_)] ∧ Z.Warmed39 U.vm ∧ U.heap = h0) (fun _ _ _ _ _ => True) (fun _ U o U' => ∃ v L, o = .returned v ∧ QRowshare Z o_ v_ h0 n0 v U'.heap L ∧ FrameEnd U o U' L ({ frames := 0, cells := 0, slots := 0, locals := 0 } : Room).cells ({ frames := 0, cells := 0, slots := 0, locals := 0 } : Room).slots) := by
  refine MetFree.of_bodySF (plainFor_of_name pn_7) hisR ?_
  intro p e s m args below meth c s₁ Bd hml0 hP hK
  obtain ⟨rfl, hZ, hh⟩ := hP
  have hx := Bd.exec
  have hby := Bd.bytes
  have hml : c.maxLocals = 1 := hml0
  have hown : s.vm.findClass "com/example/shortlist/shortlist/SelectionMeasures$Row" = some m.cls := findClass_of_methodNamed Bd.named
  have hnm := (name_of_methodNamed Bd.named Bd.method).1
  have X0 : Stand p l e ({ frames := 0, cells := 0, slots := 0, locals := 0 } : Room) s m #[(.ref o_)] below meth c s₁ [] 0 0 := Stand.of_body Bd
  have e0 : s₁.heap = h0 := by rw [← hh, Bd.state]; rfl
  have N0 := Fr.nil n0
  obtain ⟨G, pre0, hG⟩ : ∃ G : State → Prop, (∀ t, own_S p e below m s₁ 0 #[lvR o_] [] t → G t) ∧ (∀ t, G t → Steps p.tables e below (s₁.setTop (entryFrame m #[(.ref o_)] 1)) t) := ⟨fun t => Steps p.tables e below (s₁.setTop (entryFrame m #[(.ref o_)] 1)) t, fun t k => castTop (efRowshare m o_) k, fun _ k => k⟩
  have K0 : Keep h0 h0 [] := Keep.refl _ _
  obtain ⟨T1, X1, e1, st1⟩ := getF X0 hx hZ hown (host := "") (Or.inl (own_w hw 113 rfl)) Via.refl e0 P0 (g := (mkF m 1 #[lvR o_] [(.ref o_)])) rfl rfl (hb hby d23_1)
  have pre2 : ∀ t, own_S p e below m T1 4 #[lvR o_] [(.double v_)] t → G t := by
    intro t kt
    refine pre0 t ?_
    show own_S p e below m s₁ 0 #[lvR o_] [] _
    refine XS.aloadN X0.here hx rfl (hb hby d23_0) rfl rfl ?_
    show own_S p e below m s₁ 1 #[lvR o_] [(.ref o_)] _
    refine st1 _ ?_
    exact kt
  obtain ⟨fs, hr, hrun, hended, hW, hsame⟩ := X1.leave (v := some (.double v_)) (fun h => by rw [Bd.returns] at h; cases h)
  refine ⟨_, _, hG _ (pre2 _ (retOut X1 hx Bd.returns rfl (Or.inr (Or.inr (Or.inl ⟨rfl, rfl, _, rfl⟩))) (hb hby d23_4) hr)), hrun, hended, _, _, rfl, ?_, ⟨_, rfl⟩, hW, hsame.mono (by decide) (by decide)⟩
  show QRowshare Z o_ v_ h0 n0 _ T1.heap _
  rw [e1]
  exact ⟨rfl, N0, rfl⟩
theorem d24_0 : decode jdk_38_method_18_code 0 = .ok (.aload_n 0, 1) := by decide +kernel
theorem d24_1 : decode jdk_38_method_18_code 1 = .ok (.getfield 9, 3) := by decide +kernel
theorem d24_4 : decode jdk_38_method_18_code 4 = .ok (.iload_n 1, 1) := by decide +kernel
theorem d24_5 : decode jdk_38_method_18_code 5 = .ok (.aaload, 1) := by decide +kernel
theorem d24_6 : decode jdk_38_method_18_code 6 = .ok (.areturn, 1) := by decide +kernel
theorem efelementData0_ (m : MethodId) (o_ : Addr) : entryFrame m #[(.ref o_), (.int (0 : Int32))] 2 = mkF m 0 #[lvR o_, lvI (0 : Int32)] [] := by first | (simp [entryFrame, mkF, argsToLocals, Value.category]; done) | rfl
def QelementData0_ (Z : State) (o_ : Addr) (ar_ : Addr) (ka_ : ClassId) (v0_ : Addr) (v1_ : Addr) (h0 : Heap) (n0 : Nat) (v : Option Value) (h : Heap) (L : List Loc) : Prop := v = some (.ref v0_) ∧ Fr n0 L ∧ h = h0
set_option maxRecDepth 65536 in
set_option maxHeartbeats 40000000 in
theorem rmelementData0_ (l : Launch) (Z : State) (a0 : Array Value) (hw : ∀ d ∈ tables_1, d.before a0 Z = true) (ws : List Jvm.Cond) (o_ : Addr) (ar_ : Addr) (ka_ : ClassId) (v0_ : Addr) (v1_ : Addr) (h0 : Heap) (n0 : Nat) (O0 : Old Z n0 h0) (P0 : Exa Z h0 o_ "java/util/ArrayList") (P1 : Fld Z h0 o_ "java/util/ArrayList" "elementData" "[Ljava/lang/Object;" (.ref ar_)) (P2 : Fld Z h0 o_ "java/util/ArrayList" "size" "I" (.int (2 : Int32))) (P3 : Arv Z h0 ar_ ka_ (.object "java/lang/Object") (10 : Int32) [(.ref v0_), (.ref v1_), .null, .null, .null, .null, .null, .null, .null, .null] .null) :
    MetFree l (⟨"java/util/ArrayList", "elementData", "(I)Ljava/lang/Object;"⟩ : MethodName) (head1 (Jvm.Cond.code (⟨"java/util/ArrayList", "elementData", "(I)Ljava/lang/Object;"⟩ : MethodName) jdk_38_method_18_code 2 (some (.object "java/lang/Object")) :: ws) ({ frames := 0, cells := 0, slots := 0, locals := 0 } : Room)) (fun a U => a = #[(.ref o_), (.int (0 : Int32))] ∧ Z.Warmed39 U.vm ∧ U.heap = h0) (fun _ _ _ _ _ => True) (fun _ U o U' => ∃ v L, o = .returned v ∧ QelementData0_ Z o_ ar_ ka_ v0_ v1_ h0 n0 v U'.heap L ∧ FrameEnd U o U' L ({ frames := 0, cells := 0, slots := 0, locals := 0 } : Room).cells ({ frames := 0, cells := 0, slots := 0, locals := 0 } : Room).slots) := by
  refine MetFree.of_bodySF (plainFor_of_name pn_5) hisR ?_
  intro p e s m args below meth c s₁ Bd hml0 hP hK
  obtain ⟨rfl, hZ, hh⟩ := hP
  have hx := Bd.exec
  have hby := Bd.bytes
  have hml : c.maxLocals = 2 := hml0
  have hown : s.vm.findClass "java/util/ArrayList" = some m.cls := findClass_of_methodNamed Bd.named
  have hnm := (name_of_methodNamed Bd.named Bd.method).1
  have X0 : Stand p l e ({ frames := 0, cells := 0, slots := 0, locals := 0 } : Room) s m #[(.ref o_), (.int (0 : Int32))] below meth c s₁ [] 0 0 := Stand.of_body Bd
  have e0 : s₁.heap = h0 := by rw [← hh, Bd.state]; rfl
  have N0 := Fr.nil n0
  obtain ⟨G, pre0, hG⟩ : ∃ G : State → Prop, (∀ t, own_S p e below m s₁ 0 #[lvR o_, lvI (0 : Int32)] [] t → G t) ∧ (∀ t, G t → Steps p.tables e below (s₁.setTop (entryFrame m #[(.ref o_), (.int (0 : Int32))] 2)) t) := ⟨fun t => Steps p.tables e below (s₁.setTop (entryFrame m #[(.ref o_), (.int (0 : Int32))] 2)) t, fun t k => castTop (efelementData0_ m o_) k, fun _ k => k⟩
  have K0 : Keep h0 h0 [] := Keep.refl _ _
  obtain ⟨T1, X1, e1, st1⟩ := getF X0 hx hZ hown (host := "") (Or.inl (own_w hw 89 rfl)) Via.refl e0 P1 (g := (mkF m 1 #[lvR o_, lvI (0 : Int32)] [(.ref o_)])) rfl rfl (hb hby d24_1)
  obtain ⟨c2, r2, q2, s2, z2, y2, G2⟩ := id P3
  have hin2 : ¬ ((0 : Int32) < 0 ∨ c2.slots.size ≤ ((0 : Int32)).toNatClampNeg) := inb_of s2 ⟨by decide, by decide⟩
  have hat2 : c2.slots[((0 : Int32)).toNatClampNeg]? = some (.ref v0_) := Has.at y2 hin2 rfl
  have pre3 : ∀ t, own_S p e below m T1 6 #[lvR o_, lvI (0 : Int32)] [(.ref v0_)] t → G t := by
    intro t kt
    refine pre0 t ?_
    show own_S p e below m s₁ 0 #[lvR o_, lvI (0 : Int32)] [] _
    refine XS.aloadN X0.here hx rfl (hb hby d24_0) rfl rfl ?_
    show own_S p e below m s₁ 1 #[lvR o_, lvI (0 : Int32)] [(.ref o_)] _
    refine st1 _ ?_
    refine XS.iloadN X1.here hx rfl (hb hby d24_4) rfl ?_
    show own_S p e below m T1 5 #[lvR o_, lvI (0 : Int32)] [(.int (0 : Int32)), (.ref ar_)] _
    refine X1.aaload hx (j := (0 : Int32)) (v := (.ref v0_)) (by rw [e1]; exact r2.1) (State.isArrayOf_alike hZ.alike r2.2.1) rfl r2.2.2 hin2 hat2 (g := (mkF m 5 #[lvR o_, lvI (0 : Int32)] [(.int (0 : Int32)), (.ref ar_)])) rfl rfl (hb hby d24_5) _ ?_
    exact kt
  obtain ⟨fs, hr, hrun, hended, hW, hsame⟩ := X1.leave (v := some (.ref v0_)) (fun h => by rw [Bd.returns] at h; cases h)
  refine ⟨_, _, hG _ (pre3 _ (retOut X1 hx Bd.returns rfl (Or.inr (Or.inr (Or.inr (Or.inr ⟨rfl, rfl, rfl⟩)))) (hb hby d24_6) hr)), hrun, hended, _, _, rfl, ?_, ⟨_, rfl⟩, hW, hsame.mono (by decide) (by decide)⟩
  show QelementData0_ Z o_ ar_ ka_ v0_ v1_ h0 n0 _ T1.heap _
  rw [e1]
  exact ⟨rfl, N0, rfl⟩
theorem d25_0 : decode jdk_38_method_20_code 0 = .ok (.iload_n 1, 1) := by decide +kernel
theorem d25_1 : decode jdk_38_method_20_code 1 = .ok (.aload_n 0, 1) := by decide +kernel
theorem d25_2 : decode jdk_38_method_20_code 2 = .ok (.getfield 48, 3) := by decide +kernel
theorem d25_5 : decode jdk_38_method_20_code 5 = .ok (.invokestatic 118, 3) := by decide +kernel
theorem d26_0 : decode jdk_31_method_17_code 0 = .ok (.iload_n 0, 1) := by decide +kernel
theorem d26_1 : decode jdk_31_method_17_code 1 = .ok (.iload_n 1, 1) := by decide +kernel
theorem d26_2 : decode jdk_31_method_17_code 2 = .ok (.aconst_null, 1) := by decide +kernel
theorem d26_3 : decode jdk_31_method_17_code 3 = .ok (.invokestatic 105, 3) := by decide +kernel
theorem d27_0 : decode jdk_41_method_11_code 0 = .ok (.iload_n 0, 1) := by decide +kernel
theorem d27_1 : decode jdk_41_method_11_code 1 = .ok (.ifCond .lt 8, 3) := by decide +kernel
theorem d27_4 : decode jdk_41_method_11_code 4 = .ok (.iload_n 0, 1) := by decide +kernel
theorem d27_5 : decode jdk_41_method_11_code 5 = .ok (.iload_n 1, 1) := by decide +kernel
theorem d27_6 : decode jdk_41_method_11_code 6 = .ok (.if_icmp .lt 10, 3) := by decide +kernel
theorem d27_16 : decode jdk_41_method_11_code 16 = .ok (.iload_n 0, 1) := by decide +kernel
theorem d27_17 : decode jdk_41_method_11_code 17 = .ok (.ireturn, 1) := by decide +kernel
theorem pn_8 : plainName "jdk/internal/util/Preconditions" = true := by first | (simp [plainName, overriddenIn]; done) | decide +kernel
theorem efcheckIndex21 (m : MethodId)  : entryFrame m #[(.int (0 : Int32)), (.int (2 : Int32)), .null] 3 = mkF m 0 #[lvI (0 : Int32), lvI (2 : Int32), .val .null] [] := by first | (simp [entryFrame, mkF, argsToLocals, Value.category]; done) | rfl
def QcheckIndex21 (Z : State)  (h0 : Heap) (n0 : Nat) (v : Option Value) (h : Heap) (L : List Loc) : Prop := v = some (.int (0 : Int32)) ∧ Fr n0 L ∧ h = h0
abbrev mn9 : MethodName := ⟨"jdk/internal/util/Preconditions", "checkIndex", "(IILjava/util/function/BiFunction;)I"⟩
set_option maxRecDepth 65536 in
set_option maxHeartbeats 40000000 in
theorem rmcheckIndex21 (l : Launch) (Z : State) (a0 : Array Value) (hw : ∀ d ∈ tables_1, d.before a0 Z = true) (ws : List Jvm.Cond)  (h0 : Heap) (n0 : Nat) (O0 : Old Z n0 h0)  :
    MetFree l mn9 (head1 (Jvm.Cond.code mn9 jdk_41_method_11_code 3 (some .int) :: ws) ({ frames := 0, cells := 0, slots := 0, locals := 0 } : Room)) (fun a U => a = #[(.int (0 : Int32)), (.int (2 : Int32)), .null] ∧ Z.Warmed39 U.vm ∧ U.heap = h0) (fun _ _ _ _ _ => True) (fun _ U o U' => ∃ v L, o = .returned v ∧ QcheckIndex21 Z  h0 n0 v U'.heap L ∧ FrameEnd U o U' L ({ frames := 0, cells := 0, slots := 0, locals := 0 } : Room).cells ({ frames := 0, cells := 0, slots := 0, locals := 0 } : Room).slots) := by
  refine MetFree.of_bodySF (plainFor_of_name pn_8) hisR ?_
  intro p e s m args below meth c s₁ Bd hml0 hP hK
  obtain ⟨rfl, hZ, hh⟩ := hP
  have hx := Bd.exec
  have hby := Bd.bytes
  have hml : c.maxLocals = 3 := hml0
  have hown : s.vm.findClass "jdk/internal/util/Preconditions" = some m.cls := findClass_of_methodNamed Bd.named
  have hnm := (name_of_methodNamed Bd.named Bd.method).1
  have X0 : Stand p l e ({ frames := 0, cells := 0, slots := 0, locals := 0 } : Room) s m #[(.int (0 : Int32)), (.int (2 : Int32)), .null] below meth c s₁ [] 0 0 := Stand.of_body Bd
  have e0 : s₁.heap = h0 := by rw [← hh, Bd.state]; rfl
  have N0 := Fr.nil n0
  obtain ⟨G, pre0, hG⟩ : ∃ G : State → Prop, (∀ t, own_S p e below m s₁ 0 #[lvI (0 : Int32), lvI (2 : Int32), .val .null] [] t → G t) ∧ (∀ t, G t → Steps p.tables e below (s₁.setTop (entryFrame m #[(.int (0 : Int32)), (.int (2 : Int32)), .null] 3)) t) := ⟨fun t => Steps p.tables e below (s₁.setTop (entryFrame m #[(.int (0 : Int32)), (.int (2 : Int32)), .null] 3)) t, fun t k => castTop (efcheckIndex21 m ) k, fun _ k => k⟩
  have K0 : Keep h0 h0 [] := Keep.refl _ _
  have pre1 : ∀ t, own_S p e below m s₁ 17 #[lvI (0 : Int32), lvI (2 : Int32), .val .null] [(.int (0 : Int32))] t → G t := by
    intro t kt
    refine pre0 t ?_
    show own_S p e below m s₁ 0 #[lvI (0 : Int32), lvI (2 : Int32), .val .null] [] _
    refine XS.iloadN X0.here hx rfl (hb hby d27_0) rfl ?_
    show own_S p e below m s₁ 1 #[lvI (0 : Int32), lvI (2 : Int32), .val .null] [(.int (0 : Int32))] _
    refine XS.ifNo X0.here hx rfl (hb hby d27_1) rfl ((if0 _ _).trans (flt (by decide : ¬ ((0 : Int32) < (0 : Int32)))).1) ?_
    refine XS.iloadN X0.here hx rfl (hb hby d27_4) rfl ?_
    refine XS.iloadN X0.here hx rfl (hb hby d27_5) rfl ?_
    show own_S p e below m s₁ 6 #[lvI (0 : Int32), lvI (2 : Int32), .val .null] [(.int (2 : Int32)), (.int (0 : Int32))] _
    refine XS.icmpYes X0.here hx rfl (pc0 := 6) (pc' := 16) rfl (hb hby d27_6) rfl (tlt (by decide : (0 : Int32) < (2 : Int32))).1 (by decide) (by decide) ?_
    refine XS.iloadN X0.here hx rfl (hb hby d27_16) rfl ?_
    exact kt
  obtain ⟨fs, hr, hrun, hended, hW, hsame⟩ := X0.leave (v := some (.int (0 : Int32))) (fun h => by rw [Bd.returns] at h; cases h)
  refine ⟨_, _, hG _ (pre1 _ (retOut X0 hx Bd.returns rfl (Or.inl ⟨rfl, Or.inl rfl, _, rfl⟩) (hb hby d27_17) hr)), hrun, hended, _, _, rfl, ?_, ⟨_, rfl⟩, hW, hsame.mono (by decide) (by decide)⟩
  show QcheckIndex21 Z  h0 n0 _ s₁.heap _
  rw [e0]
  exact ⟨rfl, N0, rfl⟩
theorem pd_12 : parseMethodDescriptor "(IILjava/util/function/BiFunction;)I" = some ⟨[.int, .int, (.object "java/util/function/BiFunction")], some .int⟩ := by decide +kernel
theorem d26_6 : decode jdk_31_method_17_code 6 = .ok (.ireturn, 1) := by decide +kernel
theorem pn_9 : plainName "java/util/Objects" = true := by first | (simp [plainName, overriddenIn]; done) | decide +kernel
theorem efcheckIndex20 (m : MethodId)  : entryFrame m #[(.int (0 : Int32)), (.int (2 : Int32))] 2 = mkF m 0 #[lvI (0 : Int32), lvI (2 : Int32)] [] := by first | (simp [entryFrame, mkF, argsToLocals, Value.category]; done) | rfl
def QcheckIndex20 (Z : State)  (h0 : Heap) (n0 : Nat) (v : Option Value) (h : Heap) (L : List Loc) : Prop := v = some (.int (0 : Int32)) ∧ Fr n0 L ∧ h = h0
set_option maxRecDepth 65536 in
set_option maxHeartbeats 40000000 in
theorem rmcheckIndex20 (l : Launch) (Z : State) (a0 : Array Value) (hw : ∀ d ∈ tables_1, d.before a0 Z = true) (ws : List Jvm.Cond)  (h0 : Heap) (n0 : Nat) (O0 : Old Z n0 h0)  :
    MetFree l (⟨"java/util/Objects", "checkIndex", "(II)I"⟩ : MethodName) (head1 (Jvm.Cond.code (⟨"java/util/Objects", "checkIndex", "(II)I"⟩ : MethodName) jdk_31_method_17_code 2 (some .int) :: ws) ({ frames := 1, cells := 0, slots := 0, locals := 14 } : Room)) (fun a U => a = #[(.int (0 : Int32)), (.int (2 : Int32))] ∧ Z.Warmed39 U.vm ∧ U.heap = h0) (fun _ _ _ _ _ => True) (fun _ U o U' => ∃ v L, o = .returned v ∧ QcheckIndex20 Z  h0 n0 v U'.heap L ∧ FrameEnd U o U' L ({ frames := 1, cells := 0, slots := 0, locals := 14 } : Room).cells ({ frames := 1, cells := 0, slots := 0, locals := 14 } : Room).slots) := by
  refine MetFree.of_bodySF (plainFor_of_name pn_9) hisR ?_
  intro p e s m args below meth c s₁ Bd hml0 hP hK
  obtain ⟨rfl, hZ, hh⟩ := hP
  have hx := Bd.exec
  have hby := Bd.bytes
  have hml : c.maxLocals = 2 := hml0
  have hown : s.vm.findClass "java/util/Objects" = some m.cls := findClass_of_methodNamed Bd.named
  have hnm := (name_of_methodNamed Bd.named Bd.method).1
  have X0 : Stand p l e ({ frames := 1, cells := 0, slots := 0, locals := 14 } : Room) s m #[(.int (0 : Int32)), (.int (2 : Int32))] below meth c s₁ [] 0 0 := Stand.of_body Bd
  have e0 : s₁.heap = h0 := by rw [← hh, Bd.state]; rfl
  have N0 := Fr.nil n0
  obtain ⟨G, pre0, hG⟩ : ∃ G : State → Prop, (∀ t, own_S p e below m s₁ 0 #[lvI (0 : Int32), lvI (2 : Int32)] [] t → G t) ∧ (∀ t, G t → Steps p.tables e below (s₁.setTop (entryFrame m #[(.int (0 : Int32)), (.int (2 : Int32))] 2)) t) := ⟨fun t => Steps p.tables e below (s₁.setTop (entryFrame m #[(.int (0 : Int32)), (.int (2 : Int32))] 2)) t, fun t k => castTop (efcheckIndex20 m ) k, fun _ k => k⟩
  have K0 : Keep h0 h0 [] := Keep.refl _ _
  obtain ⟨_, _, ⟨T1, L1, k1, n1⟩, -, X1, ⟨Lc1, hQ1, l1, y1, z1⟩, st1⟩ := Jvm.LawKit.callS X0 hx (y := mn9) hown (mvT hZ (own_w hw 172 rfl)) (mvT hZ (own_w hw 173 rfl)) (mvT hZ (own_w hw 174 rfl)) (mvT hZ (own_w hw 175 rfl)) (by decide) (backOf (W := 0) (rmcheckIndex21 l Z a0 hw []  h0 n0 O0 ) hZ (own_w hw 175 rfl) (own_w hw 174 rfl) (by decide) (by decide)) (g := (mkF m 3 #[lvI (0 : Int32), lvI (2 : Int32)] [.null, (.int (2 : Int32)), (.int (0 : Int32))])) rfl (by rw [hml]; rfl) (argsL := [(.int (0 : Int32)), (.int (2 : Int32)), .null]) (rest := []) (lenOf pd_12 rfl) rfl (by show 2 * 0 + _ ≤ _; exact Nat.le_of_eq rfl) (hb hby d26_3) (fun _ _ => ⟨rfl, e0, (by decide : 0 + 0 ≤ _), (by decide : 0 + 0 ≤ _)⟩)
  dsimp only [Pt.U, Pt.locs, Pt.cells, Pt.slots] at X1 l1 y1 z1 st1 hQ1
  subst l1 y1 z1
  obtain ⟨h1, e1⟩ : ∃ z, T1.heap = z := ⟨_, rfl⟩
  rw [e1] at hQ1
  obtain ⟨rfl, N1q, hh1⟩ := hQ1
  have N2 := Fr.app N0 N1q
  have e1' : T1.heap = h0 := e1.trans hh1
  have pre3 : ∀ t, own_S p e below m T1 6 #[lvI (0 : Int32), lvI (2 : Int32)] [(.int (0 : Int32))] t → G t := by
    intro t kt
    refine pre0 t ?_
    show own_S p e below m s₁ 0 #[lvI (0 : Int32), lvI (2 : Int32)] [] _
    refine XS.iloadN X0.here hx rfl (hb hby d26_0) rfl ?_
    refine XS.iloadN X0.here hx rfl (hb hby d26_1) rfl ?_
    refine XS.aconstNull X0.here hx rfl (hb hby d26_2) ?_
    show own_S p e below m s₁ 3 #[lvI (0 : Int32), lvI (2 : Int32)] [.null, (.int (2 : Int32)), (.int (0 : Int32))] _
    refine st1 _ ?_
    exact kt
  obtain ⟨fs, hr, hrun, hended, hW, hsame⟩ := X1.leave (v := some (.int (0 : Int32))) (fun h => by rw [Bd.returns] at h; cases h)
  refine ⟨_, _, hG _ (pre3 _ (retOut X1 hx Bd.returns rfl (Or.inl ⟨rfl, Or.inl rfl, _, rfl⟩) (hb hby d26_6) hr)), hrun, hended, _, _, rfl, ?_, ⟨_, rfl⟩, hW, hsame.mono (by decide) (by decide)⟩
  show QcheckIndex20 Z  h0 n0 _ T1.heap _
  rw [e1']
  exact ⟨rfl, N2, rfl⟩
theorem d25_8 : decode jdk_38_method_20_code 8 = .ok (.pop, 1) := by decide +kernel
theorem d25_9 : decode jdk_38_method_20_code 9 = .ok (.aload_n 0, 1) := by decide +kernel
theorem d25_10 : decode jdk_38_method_20_code 10 = .ok (.iload_n 1, 1) := by decide +kernel
theorem d25_11 : decode jdk_38_method_20_code 11 = .ok (.invokevirtual 123, 3) := by decide +kernel
theorem pd_13 : parseMethodDescriptor "(I)Ljava/lang/Object;" = some ⟨[.int], some (.object "java/lang/Object")⟩ := by decide +kernel
theorem d25_14 : decode jdk_38_method_20_code 14 = .ok (.areturn, 1) := by decide +kernel
theorem efget0_ (m : MethodId) (o_ : Addr) : entryFrame m #[(.ref o_), (.int (0 : Int32))] 2 = mkF m 0 #[lvR o_, lvI (0 : Int32)] [] := by first | (simp [entryFrame, mkF, argsToLocals, Value.category]; done) | rfl
def Qget0_ (Z : State) (o_ : Addr) (ar_ : Addr) (ka_ : ClassId) (v0_ : Addr) (v1_ : Addr) (h0 : Heap) (n0 : Nat) (v : Option Value) (h : Heap) (L : List Loc) : Prop := v = some (.ref v0_) ∧ Fr n0 L ∧ h = h0
set_option maxRecDepth 65536 in
set_option maxHeartbeats 40000000 in
theorem rmget0_ (l : Launch) (Z : State) (a0 : Array Value) (hw : ∀ d ∈ tables_1, d.before a0 Z = true) (ws : List Jvm.Cond) (o_ : Addr) (ar_ : Addr) (ka_ : ClassId) (v0_ : Addr) (v1_ : Addr) (h0 : Heap) (n0 : Nat) (O0 : Old Z n0 h0) (P0 : Exa Z h0 o_ "java/util/ArrayList") (P1 : Fld Z h0 o_ "java/util/ArrayList" "elementData" "[Ljava/lang/Object;" (.ref ar_)) (P2 : Fld Z h0 o_ "java/util/ArrayList" "size" "I" (.int (2 : Int32))) (P3 : Arv Z h0 ar_ ka_ (.object "java/lang/Object") (10 : Int32) [(.ref v0_), (.ref v1_), .null, .null, .null, .null, .null, .null, .null, .null] .null) :
    MetFree l (⟨"java/util/ArrayList", "get", "(I)Ljava/lang/Object;"⟩ : MethodName) (head1 (Jvm.Cond.code (⟨"java/util/ArrayList", "get", "(I)Ljava/lang/Object;"⟩ : MethodName) jdk_38_method_20_code 2 (some (.object "java/lang/Object")) :: ws) ({ frames := 2, cells := 0, slots := 0, locals := 27 } : Room)) (fun a U => a = #[(.ref o_), (.int (0 : Int32))] ∧ Z.Warmed39 U.vm ∧ U.heap = h0) (fun _ _ _ _ _ => True) (fun _ U o U' => ∃ v L, o = .returned v ∧ Qget0_ Z o_ ar_ ka_ v0_ v1_ h0 n0 v U'.heap L ∧ FrameEnd U o U' L ({ frames := 2, cells := 0, slots := 0, locals := 27 } : Room).cells ({ frames := 2, cells := 0, slots := 0, locals := 27 } : Room).slots) := by
  refine MetFree.of_bodySF (plainFor_of_name pn_5) hisR ?_
  intro p e s m args below meth c s₁ Bd hml0 hP hK
  obtain ⟨rfl, hZ, hh⟩ := hP
  have hx := Bd.exec
  have hby := Bd.bytes
  have hml : c.maxLocals = 2 := hml0
  have hown : s.vm.findClass "java/util/ArrayList" = some m.cls := findClass_of_methodNamed Bd.named
  have hnm := (name_of_methodNamed Bd.named Bd.method).1
  have X0 : Stand p l e ({ frames := 2, cells := 0, slots := 0, locals := 27 } : Room) s m #[(.ref o_), (.int (0 : Int32))] below meth c s₁ [] 0 0 := Stand.of_body Bd
  have e0 : s₁.heap = h0 := by rw [← hh, Bd.state]; rfl
  have N0 := Fr.nil n0
  obtain ⟨G, pre0, hG⟩ : ∃ G : State → Prop, (∀ t, own_S p e below m s₁ 0 #[lvR o_, lvI (0 : Int32)] [] t → G t) ∧ (∀ t, G t → Steps p.tables e below (s₁.setTop (entryFrame m #[(.ref o_), (.int (0 : Int32))] 2)) t) := ⟨fun t => Steps p.tables e below (s₁.setTop (entryFrame m #[(.ref o_), (.int (0 : Int32))] 2)) t, fun t k => castTop (efget0_ m o_) k, fun _ k => k⟩
  have K0 : Keep h0 h0 [] := Keep.refl _ _
  obtain ⟨T1, X1, e1, st1⟩ := getF X0 hx hZ hown (host := "") (Or.inl (own_w hw 128 rfl)) Via.refl e0 P2 (g := (mkF m 2 #[lvR o_, lvI (0 : Int32)] [(.ref o_), (.int (0 : Int32))])) rfl rfl (hb hby d25_2)
  obtain ⟨_, _, ⟨T2, L2, k2, n2⟩, -, X2, ⟨Lc2, hQ2, l2, y2, z2⟩, st2⟩ := Jvm.LawKit.callS X1 hx (y := (⟨"java/util/Objects", "checkIndex", "(II)I"⟩ : MethodName)) hown (mvT hZ (own_w hw 168 rfl)) (mvT hZ (own_w hw 169 rfl)) (mvT hZ (own_w hw 170 rfl)) (mvT hZ (own_w hw 171 rfl)) (by decide) (backOf (W := 0) (rmcheckIndex20 l Z a0 hw []  h0 n0 O0 ) hZ (own_w hw 171 rfl) (own_w hw 170 rfl) (by decide) (by decide)) (g := (mkF m 5 #[lvR o_, lvI (0 : Int32)] [(.int (2 : Int32)), (.int (0 : Int32))])) rfl (by rw [hml]; rfl) (argsL := [(.int (0 : Int32)), (.int (2 : Int32))]) (rest := []) (lenOf pd_7 rfl) rfl (by show 2 * 0 + _ ≤ _; exact Nat.le_of_eq rfl) (hb hby d25_5) (fun _ _ => ⟨rfl, e1, (by decide : 0 + 0 ≤ _), (by decide : 0 + 0 ≤ _)⟩)
  dsimp only [Pt.U, Pt.locs, Pt.cells, Pt.slots] at X2 l2 y2 z2 st2 hQ2
  subst l2 y2 z2
  obtain ⟨h2, e2⟩ : ∃ z, T2.heap = z := ⟨_, rfl⟩
  rw [e2] at hQ2
  obtain ⟨rfl, N2q, hh2⟩ := hQ2
  have N3 := Fr.app N0 N2q
  have e2' : T2.heap = h0 := e2.trans hh2
  obtain ⟨cq4, kq4, q4a, q4b, q4c⟩ := isOf hZ e2' P0
  obtain ⟨_, _, ⟨T4, L4, k4, n4⟩, -, X4, ⟨Lc4, hQ4, l4, y4, z4⟩, st4⟩ := X2.virtualBack hx (y := (⟨"java/util/ArrayList", "elementData", "(I)Ljava/lang/Object;"⟩ : MethodName)) (z := (⟨"java/util/ArrayList", "elementData", "(I)Ljava/lang/Object;"⟩ : MethodName)) hown (mvT hZ (own_w hw 176 rfl)) (mvT hZ (own_w hw 177 rfl)) (notFace_of_selects (args := #[]) (mvT hZ (own_w hw 179 rfl))) (mvT hZ (own_w hw 179 rfl)) (mvT hZ (own_w hw 178 rfl)) (by decide) (backOf (W := 0) (rmelementData0_ l Z a0 hw [] o_ ar_ ka_ v0_ v1_ h0 n0 O0 P0 P1 P2 P3) hZ (own_w hw 180 rfl) (own_w hw 69 rfl) (by decide) (by decide)) q4a q4c (g := (mkF m 11 #[lvR o_, lvI (0 : Int32)] [(.int (0 : Int32)), (.ref o_)])) rfl (by rw [hml]; rfl) (Steps.refl _) (argsL := [(.int (0 : Int32))]) (rest := []) (lenOf pd_13 rfl) rfl (by show 2 * 0 + _ ≤ _; exact Nat.le_of_eq rfl) (hb hby d25_11) (fun _ _ => ⟨rfl, e2', (by decide : 0 + 0 ≤ _), (by decide : 0 + 0 ≤ _)⟩)
  dsimp only [Pt.U, Pt.locs, Pt.cells, Pt.slots] at X4 l4 y4 z4 st4 hQ4
  subst l4 y4 z4
  obtain ⟨h4, e4⟩ : ∃ z, T4.heap = z := ⟨_, rfl⟩
  rw [e4] at hQ4
  obtain ⟨rfl, N4q, hh4⟩ := hQ4
  have N5 := Fr.app N3 N4q
  have e4' : T4.heap = h0 := e4.trans hh4
  have pre6 : ∀ t, own_S p e below m T4 14 #[lvR o_, lvI (0 : Int32)] [(.ref v0_)] t → G t := by
    intro t kt
    refine pre0 t ?_
    show own_S p e below m s₁ 0 #[lvR o_, lvI (0 : Int32)] [] _
    refine XS.iloadN X0.here hx rfl (hb hby d25_0) rfl ?_
    refine XS.aloadN X0.here hx rfl (hb hby d25_1) rfl rfl ?_
    show own_S p e below m s₁ 2 #[lvR o_, lvI (0 : Int32)] [(.ref o_), (.int (0 : Int32))] _
    refine st1 _ ?_
    show own_S p e below m T1 5 #[lvR o_, lvI (0 : Int32)] [(.int (2 : Int32)), (.int (0 : Int32))] _
    refine st2 _ ?_
    refine XS.pop X2.here hx rfl (hb hby d25_8) rfl rfl ?_
    refine XS.aloadN X2.here hx rfl (hb hby d25_9) rfl rfl ?_
    refine XS.iloadN X2.here hx rfl (hb hby d25_10) rfl ?_
    show own_S p e below m T2 11 #[lvR o_, lvI (0 : Int32)] [(.int (0 : Int32)), (.ref o_)] _
    refine st4.trans ?_
    exact kt
  obtain ⟨fs, hr, hrun, hended, hW, hsame⟩ := X4.leave (v := some (.ref v0_)) (fun h => by rw [Bd.returns] at h; cases h)
  refine ⟨_, _, hG _ (pre6 _ (retOut X4 hx Bd.returns rfl (Or.inr (Or.inr (Or.inr (Or.inr ⟨rfl, rfl, rfl⟩)))) (hb hby d25_14) hr)), hrun, hended, _, _, rfl, ?_, ⟨_, rfl⟩, hW, hsame.mono (by decide) (by decide)⟩
  show Qget0_ Z o_ ar_ ka_ v0_ v1_ h0 n0 _ T4.heap _
  rw [e4']
  exact ⟨rfl, N5, rfl⟩
theorem efelementData1_ (m : MethodId) (o_ : Addr) : entryFrame m #[(.ref o_), (.int (1 : Int32))] 2 = mkF m 0 #[lvR o_, lvI (1 : Int32)] [] := by first | (simp [entryFrame, mkF, argsToLocals, Value.category]; done) | rfl
def QelementData1_ (Z : State) (o_ : Addr) (ar_ : Addr) (ka_ : ClassId) (v0_ : Addr) (v1_ : Addr) (h0 : Heap) (n0 : Nat) (v : Option Value) (h : Heap) (L : List Loc) : Prop := v = some (.ref v1_) ∧ Fr n0 L ∧ h = h0
set_option maxRecDepth 65536 in
set_option maxHeartbeats 40000000 in
theorem rmelementData1_ (l : Launch) (Z : State) (a0 : Array Value) (hw : ∀ d ∈ tables_1, d.before a0 Z = true) (ws : List Jvm.Cond) (o_ : Addr) (ar_ : Addr) (ka_ : ClassId) (v0_ : Addr) (v1_ : Addr) (h0 : Heap) (n0 : Nat) (O0 : Old Z n0 h0) (P0 : Exa Z h0 o_ "java/util/ArrayList") (P1 : Fld Z h0 o_ "java/util/ArrayList" "elementData" "[Ljava/lang/Object;" (.ref ar_)) (P2 : Fld Z h0 o_ "java/util/ArrayList" "size" "I" (.int (2 : Int32))) (P3 : Arv Z h0 ar_ ka_ (.object "java/lang/Object") (10 : Int32) [(.ref v0_), (.ref v1_), .null, .null, .null, .null, .null, .null, .null, .null] .null) :
    MetFree l (⟨"java/util/ArrayList", "elementData", "(I)Ljava/lang/Object;"⟩ : MethodName) (head1 (Jvm.Cond.code (⟨"java/util/ArrayList", "elementData", "(I)Ljava/lang/Object;"⟩ : MethodName) jdk_38_method_18_code 2 (some (.object "java/lang/Object")) :: ws) ({ frames := 0, cells := 0, slots := 0, locals := 0 } : Room)) (fun a U => a = #[(.ref o_), (.int (1 : Int32))] ∧ Z.Warmed39 U.vm ∧ U.heap = h0) (fun _ _ _ _ _ => True) (fun _ U o U' => ∃ v L, o = .returned v ∧ QelementData1_ Z o_ ar_ ka_ v0_ v1_ h0 n0 v U'.heap L ∧ FrameEnd U o U' L ({ frames := 0, cells := 0, slots := 0, locals := 0 } : Room).cells ({ frames := 0, cells := 0, slots := 0, locals := 0 } : Room).slots) := by
  refine MetFree.of_bodySF (plainFor_of_name pn_5) hisR ?_
  intro p e s m args below meth c s₁ Bd hml0 hP hK
  obtain ⟨rfl, hZ, hh⟩ := hP
  have hx := Bd.exec
  have hby := Bd.bytes
  have hml : c.maxLocals = 2 := hml0
  have hown : s.vm.findClass "java/util/ArrayList" = some m.cls := findClass_of_methodNamed Bd.named
  have hnm := (name_of_methodNamed Bd.named Bd.method).1
  have X0 : Stand p l e ({ frames := 0, cells := 0, slots := 0, locals := 0 } : Room) s m #[(.ref o_), (.int (1 : Int32))] below meth c s₁ [] 0 0 := Stand.of_body Bd
  have e0 : s₁.heap = h0 := by rw [← hh, Bd.state]; rfl
  have N0 := Fr.nil n0
  obtain ⟨G, pre0, hG⟩ : ∃ G : State → Prop, (∀ t, own_S p e below m s₁ 0 #[lvR o_, lvI (1 : Int32)] [] t → G t) ∧ (∀ t, G t → Steps p.tables e below (s₁.setTop (entryFrame m #[(.ref o_), (.int (1 : Int32))] 2)) t) := ⟨fun t => Steps p.tables e below (s₁.setTop (entryFrame m #[(.ref o_), (.int (1 : Int32))] 2)) t, fun t k => castTop (efelementData1_ m o_) k, fun _ k => k⟩
  have K0 : Keep h0 h0 [] := Keep.refl _ _
  obtain ⟨T1, X1, e1, st1⟩ := getF X0 hx hZ hown (host := "") (Or.inl (own_w hw 89 rfl)) Via.refl e0 P1 (g := (mkF m 1 #[lvR o_, lvI (1 : Int32)] [(.ref o_)])) rfl rfl (hb hby d24_1)
  obtain ⟨c2, r2, q2, s2, z2, y2, G2⟩ := id P3
  have hin2 : ¬ ((1 : Int32) < 0 ∨ c2.slots.size ≤ ((1 : Int32)).toNatClampNeg) := inb_of s2 ⟨by decide, by decide⟩
  have hat2 : c2.slots[((1 : Int32)).toNatClampNeg]? = some (.ref v1_) := Has.at y2 hin2 rfl
  have pre3 : ∀ t, own_S p e below m T1 6 #[lvR o_, lvI (1 : Int32)] [(.ref v1_)] t → G t := by
    intro t kt
    refine pre0 t ?_
    show own_S p e below m s₁ 0 #[lvR o_, lvI (1 : Int32)] [] _
    refine XS.aloadN X0.here hx rfl (hb hby d24_0) rfl rfl ?_
    show own_S p e below m s₁ 1 #[lvR o_, lvI (1 : Int32)] [(.ref o_)] _
    refine st1 _ ?_
    refine XS.iloadN X1.here hx rfl (hb hby d24_4) rfl ?_
    show own_S p e below m T1 5 #[lvR o_, lvI (1 : Int32)] [(.int (1 : Int32)), (.ref ar_)] _
    refine X1.aaload hx (j := (1 : Int32)) (v := (.ref v1_)) (by rw [e1]; exact r2.1) (State.isArrayOf_alike hZ.alike r2.2.1) rfl r2.2.2 hin2 hat2 (g := (mkF m 5 #[lvR o_, lvI (1 : Int32)] [(.int (1 : Int32)), (.ref ar_)])) rfl rfl (hb hby d24_5) _ ?_
    exact kt
  obtain ⟨fs, hr, hrun, hended, hW, hsame⟩ := X1.leave (v := some (.ref v1_)) (fun h => by rw [Bd.returns] at h; cases h)
  refine ⟨_, _, hG _ (pre3 _ (retOut X1 hx Bd.returns rfl (Or.inr (Or.inr (Or.inr (Or.inr ⟨rfl, rfl, rfl⟩)))) (hb hby d24_6) hr)), hrun, hended, _, _, rfl, ?_, ⟨_, rfl⟩, hW, hsame.mono (by decide) (by decide)⟩
  show QelementData1_ Z o_ ar_ ka_ v0_ v1_ h0 n0 _ T1.heap _
  rw [e1]
  exact ⟨rfl, N0, rfl⟩
theorem efcheckIndex23 (m : MethodId)  : entryFrame m #[(.int (1 : Int32)), (.int (2 : Int32)), .null] 3 = mkF m 0 #[lvI (1 : Int32), lvI (2 : Int32), .val .null] [] := by first | (simp [entryFrame, mkF, argsToLocals, Value.category]; done) | rfl
def QcheckIndex23 (Z : State)  (h0 : Heap) (n0 : Nat) (v : Option Value) (h : Heap) (L : List Loc) : Prop := v = some (.int (1 : Int32)) ∧ Fr n0 L ∧ h = h0
set_option maxRecDepth 65536 in
set_option maxHeartbeats 40000000 in
theorem rmcheckIndex23 (l : Launch) (Z : State) (a0 : Array Value) (hw : ∀ d ∈ tables_1, d.before a0 Z = true) (ws : List Jvm.Cond)  (h0 : Heap) (n0 : Nat) (O0 : Old Z n0 h0)  :
    MetFree l mn9 (head1 (Jvm.Cond.code mn9 jdk_41_method_11_code 3 (some .int) :: ws) ({ frames := 0, cells := 0, slots := 0, locals := 0 } : Room)) (fun a U => a = #[(.int (1 : Int32)), (.int (2 : Int32)), .null] ∧ Z.Warmed39 U.vm ∧ U.heap = h0) (fun _ _ _ _ _ => True) (fun _ U o U' => ∃ v L, o = .returned v ∧ QcheckIndex23 Z  h0 n0 v U'.heap L ∧ FrameEnd U o U' L ({ frames := 0, cells := 0, slots := 0, locals := 0 } : Room).cells ({ frames := 0, cells := 0, slots := 0, locals := 0 } : Room).slots) := by
  refine MetFree.of_bodySF (plainFor_of_name pn_8) hisR ?_
  intro p e s m args below meth c s₁ Bd hml0 hP hK
  obtain ⟨rfl, hZ, hh⟩ := hP
  have hx := Bd.exec
  have hby := Bd.bytes
  have hml : c.maxLocals = 3 := hml0
  have hown : s.vm.findClass "jdk/internal/util/Preconditions" = some m.cls := findClass_of_methodNamed Bd.named
  have hnm := (name_of_methodNamed Bd.named Bd.method).1
  have X0 : Stand p l e ({ frames := 0, cells := 0, slots := 0, locals := 0 } : Room) s m #[(.int (1 : Int32)), (.int (2 : Int32)), .null] below meth c s₁ [] 0 0 := Stand.of_body Bd
  have e0 : s₁.heap = h0 := by rw [← hh, Bd.state]; rfl
  have N0 := Fr.nil n0
  obtain ⟨G, pre0, hG⟩ : ∃ G : State → Prop, (∀ t, own_S p e below m s₁ 0 #[lvI (1 : Int32), lvI (2 : Int32), .val .null] [] t → G t) ∧ (∀ t, G t → Steps p.tables e below (s₁.setTop (entryFrame m #[(.int (1 : Int32)), (.int (2 : Int32)), .null] 3)) t) := ⟨fun t => Steps p.tables e below (s₁.setTop (entryFrame m #[(.int (1 : Int32)), (.int (2 : Int32)), .null] 3)) t, fun t k => castTop (efcheckIndex23 m ) k, fun _ k => k⟩
  have K0 : Keep h0 h0 [] := Keep.refl _ _
  have pre1 : ∀ t, own_S p e below m s₁ 17 #[lvI (1 : Int32), lvI (2 : Int32), .val .null] [(.int (1 : Int32))] t → G t := by
    intro t kt
    refine pre0 t ?_
    show own_S p e below m s₁ 0 #[lvI (1 : Int32), lvI (2 : Int32), .val .null] [] _
    refine XS.iloadN X0.here hx rfl (hb hby d27_0) rfl ?_
    show own_S p e below m s₁ 1 #[lvI (1 : Int32), lvI (2 : Int32), .val .null] [(.int (1 : Int32))] _
    refine XS.ifNo X0.here hx rfl (hb hby d27_1) rfl ((if0 _ _).trans (flt (by decide : ¬ ((1 : Int32) < (0 : Int32)))).1) ?_
    refine XS.iloadN X0.here hx rfl (hb hby d27_4) rfl ?_
    refine XS.iloadN X0.here hx rfl (hb hby d27_5) rfl ?_
    show own_S p e below m s₁ 6 #[lvI (1 : Int32), lvI (2 : Int32), .val .null] [(.int (2 : Int32)), (.int (1 : Int32))] _
    refine XS.icmpYes X0.here hx rfl (pc0 := 6) (pc' := 16) rfl (hb hby d27_6) rfl (tlt (by decide : (1 : Int32) < (2 : Int32))).1 (by decide) (by decide) ?_
    refine XS.iloadN X0.here hx rfl (hb hby d27_16) rfl ?_
    exact kt
  obtain ⟨fs, hr, hrun, hended, hW, hsame⟩ := X0.leave (v := some (.int (1 : Int32))) (fun h => by rw [Bd.returns] at h; cases h)
  refine ⟨_, _, hG _ (pre1 _ (retOut X0 hx Bd.returns rfl (Or.inl ⟨rfl, Or.inl rfl, _, rfl⟩) (hb hby d27_17) hr)), hrun, hended, _, _, rfl, ?_, ⟨_, rfl⟩, hW, hsame.mono (by decide) (by decide)⟩
  show QcheckIndex23 Z  h0 n0 _ s₁.heap _
  rw [e0]
  exact ⟨rfl, N0, rfl⟩
theorem efcheckIndex22 (m : MethodId)  : entryFrame m #[(.int (1 : Int32)), (.int (2 : Int32))] 2 = mkF m 0 #[lvI (1 : Int32), lvI (2 : Int32)] [] := by first | (simp [entryFrame, mkF, argsToLocals, Value.category]; done) | rfl
def QcheckIndex22 (Z : State)  (h0 : Heap) (n0 : Nat) (v : Option Value) (h : Heap) (L : List Loc) : Prop := v = some (.int (1 : Int32)) ∧ Fr n0 L ∧ h = h0
set_option maxRecDepth 65536 in
set_option maxHeartbeats 40000000 in
theorem rmcheckIndex22 (l : Launch) (Z : State) (a0 : Array Value) (hw : ∀ d ∈ tables_1, d.before a0 Z = true) (ws : List Jvm.Cond)  (h0 : Heap) (n0 : Nat) (O0 : Old Z n0 h0)  :
    MetFree l (⟨"java/util/Objects", "checkIndex", "(II)I"⟩ : MethodName) (head1 (Jvm.Cond.code (⟨"java/util/Objects", "checkIndex", "(II)I"⟩ : MethodName) jdk_31_method_17_code 2 (some .int) :: ws) ({ frames := 1, cells := 0, slots := 0, locals := 14 } : Room)) (fun a U => a = #[(.int (1 : Int32)), (.int (2 : Int32))] ∧ Z.Warmed39 U.vm ∧ U.heap = h0) (fun _ _ _ _ _ => True) (fun _ U o U' => ∃ v L, o = .returned v ∧ QcheckIndex22 Z  h0 n0 v U'.heap L ∧ FrameEnd U o U' L ({ frames := 1, cells := 0, slots := 0, locals := 14 } : Room).cells ({ frames := 1, cells := 0, slots := 0, locals := 14 } : Room).slots) := by
  refine MetFree.of_bodySF (plainFor_of_name pn_9) hisR ?_
  intro p e s m args below meth c s₁ Bd hml0 hP hK
  obtain ⟨rfl, hZ, hh⟩ := hP
  have hx := Bd.exec
  have hby := Bd.bytes
  have hml : c.maxLocals = 2 := hml0
  have hown : s.vm.findClass "java/util/Objects" = some m.cls := findClass_of_methodNamed Bd.named
  have hnm := (name_of_methodNamed Bd.named Bd.method).1
  have X0 : Stand p l e ({ frames := 1, cells := 0, slots := 0, locals := 14 } : Room) s m #[(.int (1 : Int32)), (.int (2 : Int32))] below meth c s₁ [] 0 0 := Stand.of_body Bd
  have e0 : s₁.heap = h0 := by rw [← hh, Bd.state]; rfl
  have N0 := Fr.nil n0
  obtain ⟨G, pre0, hG⟩ : ∃ G : State → Prop, (∀ t, own_S p e below m s₁ 0 #[lvI (1 : Int32), lvI (2 : Int32)] [] t → G t) ∧ (∀ t, G t → Steps p.tables e below (s₁.setTop (entryFrame m #[(.int (1 : Int32)), (.int (2 : Int32))] 2)) t) := ⟨fun t => Steps p.tables e below (s₁.setTop (entryFrame m #[(.int (1 : Int32)), (.int (2 : Int32))] 2)) t, fun t k => castTop (efcheckIndex22 m ) k, fun _ k => k⟩
  have K0 : Keep h0 h0 [] := Keep.refl _ _
  obtain ⟨_, _, ⟨T1, L1, k1, n1⟩, -, X1, ⟨Lc1, hQ1, l1, y1, z1⟩, st1⟩ := Jvm.LawKit.callS X0 hx (y := mn9) hown (mvT hZ (own_w hw 172 rfl)) (mvT hZ (own_w hw 173 rfl)) (mvT hZ (own_w hw 174 rfl)) (mvT hZ (own_w hw 175 rfl)) (by decide) (backOf (W := 0) (rmcheckIndex23 l Z a0 hw []  h0 n0 O0 ) hZ (own_w hw 175 rfl) (own_w hw 174 rfl) (by decide) (by decide)) (g := (mkF m 3 #[lvI (1 : Int32), lvI (2 : Int32)] [.null, (.int (2 : Int32)), (.int (1 : Int32))])) rfl (by rw [hml]; rfl) (argsL := [(.int (1 : Int32)), (.int (2 : Int32)), .null]) (rest := []) (lenOf pd_12 rfl) rfl (by show 2 * 0 + _ ≤ _; exact Nat.le_of_eq rfl) (hb hby d26_3) (fun _ _ => ⟨rfl, e0, (by decide : 0 + 0 ≤ _), (by decide : 0 + 0 ≤ _)⟩)
  dsimp only [Pt.U, Pt.locs, Pt.cells, Pt.slots] at X1 l1 y1 z1 st1 hQ1
  subst l1 y1 z1
  obtain ⟨h1, e1⟩ : ∃ z, T1.heap = z := ⟨_, rfl⟩
  rw [e1] at hQ1
  obtain ⟨rfl, N1q, hh1⟩ := hQ1
  have N2 := Fr.app N0 N1q
  have e1' : T1.heap = h0 := e1.trans hh1
  have pre3 : ∀ t, own_S p e below m T1 6 #[lvI (1 : Int32), lvI (2 : Int32)] [(.int (1 : Int32))] t → G t := by
    intro t kt
    refine pre0 t ?_
    show own_S p e below m s₁ 0 #[lvI (1 : Int32), lvI (2 : Int32)] [] _
    refine XS.iloadN X0.here hx rfl (hb hby d26_0) rfl ?_
    refine XS.iloadN X0.here hx rfl (hb hby d26_1) rfl ?_
    refine XS.aconstNull X0.here hx rfl (hb hby d26_2) ?_
    show own_S p e below m s₁ 3 #[lvI (1 : Int32), lvI (2 : Int32)] [.null, (.int (2 : Int32)), (.int (1 : Int32))] _
    refine st1 _ ?_
    exact kt
  obtain ⟨fs, hr, hrun, hended, hW, hsame⟩ := X1.leave (v := some (.int (1 : Int32))) (fun h => by rw [Bd.returns] at h; cases h)
  refine ⟨_, _, hG _ (pre3 _ (retOut X1 hx Bd.returns rfl (Or.inl ⟨rfl, Or.inl rfl, _, rfl⟩) (hb hby d26_6) hr)), hrun, hended, _, _, rfl, ?_, ⟨_, rfl⟩, hW, hsame.mono (by decide) (by decide)⟩
  show QcheckIndex22 Z  h0 n0 _ T1.heap _
  rw [e1']
  exact ⟨rfl, N2, rfl⟩
theorem efget1_ (m : MethodId) (o_ : Addr) : entryFrame m #[(.ref o_), (.int (1 : Int32))] 2 = mkF m 0 #[lvR o_, lvI (1 : Int32)] [] := by first | (simp [entryFrame, mkF, argsToLocals, Value.category]; done) | rfl
def Qget1_ (Z : State) (o_ : Addr) (ar_ : Addr) (ka_ : ClassId) (v0_ : Addr) (v1_ : Addr) (h0 : Heap) (n0 : Nat) (v : Option Value) (h : Heap) (L : List Loc) : Prop := v = some (.ref v1_) ∧ Fr n0 L ∧ h = h0
set_option maxRecDepth 65536 in
set_option maxHeartbeats 40000000 in
theorem rmget1_ (l : Launch) (Z : State) (a0 : Array Value) (hw : ∀ d ∈ tables_1, d.before a0 Z = true) (ws : List Jvm.Cond) (o_ : Addr) (ar_ : Addr) (ka_ : ClassId) (v0_ : Addr) (v1_ : Addr) (h0 : Heap) (n0 : Nat) (O0 : Old Z n0 h0) (P0 : Exa Z h0 o_ "java/util/ArrayList") (P1 : Fld Z h0 o_ "java/util/ArrayList" "elementData" "[Ljava/lang/Object;" (.ref ar_)) (P2 : Fld Z h0 o_ "java/util/ArrayList" "size" "I" (.int (2 : Int32))) (P3 : Arv Z h0 ar_ ka_ (.object "java/lang/Object") (10 : Int32) [(.ref v0_), (.ref v1_), .null, .null, .null, .null, .null, .null, .null, .null] .null) :
    MetFree l (⟨"java/util/ArrayList", "get", "(I)Ljava/lang/Object;"⟩ : MethodName) (head1 (Jvm.Cond.code (⟨"java/util/ArrayList", "get", "(I)Ljava/lang/Object;"⟩ : MethodName) jdk_38_method_20_code 2 (some (.object "java/lang/Object")) :: ws) ({ frames := 2, cells := 0, slots := 0, locals := 27 } : Room)) (fun a U => a = #[(.ref o_), (.int (1 : Int32))] ∧ Z.Warmed39 U.vm ∧ U.heap = h0) (fun _ _ _ _ _ => True) (fun _ U o U' => ∃ v L, o = .returned v ∧ Qget1_ Z o_ ar_ ka_ v0_ v1_ h0 n0 v U'.heap L ∧ FrameEnd U o U' L ({ frames := 2, cells := 0, slots := 0, locals := 27 } : Room).cells ({ frames := 2, cells := 0, slots := 0, locals := 27 } : Room).slots) := by
  refine MetFree.of_bodySF (plainFor_of_name pn_5) hisR ?_
  intro p e s m args below meth c s₁ Bd hml0 hP hK
  obtain ⟨rfl, hZ, hh⟩ := hP
  have hx := Bd.exec
  have hby := Bd.bytes
  have hml : c.maxLocals = 2 := hml0
  have hown : s.vm.findClass "java/util/ArrayList" = some m.cls := findClass_of_methodNamed Bd.named
  have hnm := (name_of_methodNamed Bd.named Bd.method).1
  have X0 : Stand p l e ({ frames := 2, cells := 0, slots := 0, locals := 27 } : Room) s m #[(.ref o_), (.int (1 : Int32))] below meth c s₁ [] 0 0 := Stand.of_body Bd
  have e0 : s₁.heap = h0 := by rw [← hh, Bd.state]; rfl
  have N0 := Fr.nil n0
  obtain ⟨G, pre0, hG⟩ : ∃ G : State → Prop, (∀ t, own_S p e below m s₁ 0 #[lvR o_, lvI (1 : Int32)] [] t → G t) ∧ (∀ t, G t → Steps p.tables e below (s₁.setTop (entryFrame m #[(.ref o_), (.int (1 : Int32))] 2)) t) := ⟨fun t => Steps p.tables e below (s₁.setTop (entryFrame m #[(.ref o_), (.int (1 : Int32))] 2)) t, fun t k => castTop (efget1_ m o_) k, fun _ k => k⟩
  have K0 : Keep h0 h0 [] := Keep.refl _ _
  obtain ⟨T1, X1, e1, st1⟩ := getF X0 hx hZ hown (host := "") (Or.inl (own_w hw 128 rfl)) Via.refl e0 P2 (g := (mkF m 2 #[lvR o_, lvI (1 : Int32)] [(.ref o_), (.int (1 : Int32))])) rfl rfl (hb hby d25_2)
  obtain ⟨_, _, ⟨T2, L2, k2, n2⟩, -, X2, ⟨Lc2, hQ2, l2, y2, z2⟩, st2⟩ := Jvm.LawKit.callS X1 hx (y := (⟨"java/util/Objects", "checkIndex", "(II)I"⟩ : MethodName)) hown (mvT hZ (own_w hw 168 rfl)) (mvT hZ (own_w hw 169 rfl)) (mvT hZ (own_w hw 170 rfl)) (mvT hZ (own_w hw 171 rfl)) (by decide) (backOf (W := 0) (rmcheckIndex22 l Z a0 hw []  h0 n0 O0 ) hZ (own_w hw 171 rfl) (own_w hw 170 rfl) (by decide) (by decide)) (g := (mkF m 5 #[lvR o_, lvI (1 : Int32)] [(.int (2 : Int32)), (.int (1 : Int32))])) rfl (by rw [hml]; rfl) (argsL := [(.int (1 : Int32)), (.int (2 : Int32))]) (rest := []) (lenOf pd_7 rfl) rfl (by show 2 * 0 + _ ≤ _; exact Nat.le_of_eq rfl) (hb hby d25_5) (fun _ _ => ⟨rfl, e1, (by decide : 0 + 0 ≤ _), (by decide : 0 + 0 ≤ _)⟩)
  dsimp only [Pt.U, Pt.locs, Pt.cells, Pt.slots] at X2 l2 y2 z2 st2 hQ2
  subst l2 y2 z2
  obtain ⟨h2, e2⟩ : ∃ z, T2.heap = z := ⟨_, rfl⟩
  rw [e2] at hQ2
  obtain ⟨rfl, N2q, hh2⟩ := hQ2
  have N3 := Fr.app N0 N2q
  have e2' : T2.heap = h0 := e2.trans hh2
  obtain ⟨cq4, kq4, q4a, q4b, q4c⟩ := isOf hZ e2' P0
  obtain ⟨_, _, ⟨T4, L4, k4, n4⟩, -, X4, ⟨Lc4, hQ4, l4, y4, z4⟩, st4⟩ := X2.virtualBack hx (y := (⟨"java/util/ArrayList", "elementData", "(I)Ljava/lang/Object;"⟩ : MethodName)) (z := (⟨"java/util/ArrayList", "elementData", "(I)Ljava/lang/Object;"⟩ : MethodName)) hown (mvT hZ (own_w hw 176 rfl)) (mvT hZ (own_w hw 177 rfl)) (notFace_of_selects (args := #[]) (mvT hZ (own_w hw 179 rfl))) (mvT hZ (own_w hw 179 rfl)) (mvT hZ (own_w hw 178 rfl)) (by decide) (backOf (W := 0) (rmelementData1_ l Z a0 hw [] o_ ar_ ka_ v0_ v1_ h0 n0 O0 P0 P1 P2 P3) hZ (own_w hw 180 rfl) (own_w hw 69 rfl) (by decide) (by decide)) q4a q4c (g := (mkF m 11 #[lvR o_, lvI (1 : Int32)] [(.int (1 : Int32)), (.ref o_)])) rfl (by rw [hml]; rfl) (Steps.refl _) (argsL := [(.int (1 : Int32))]) (rest := []) (lenOf pd_13 rfl) rfl (by show 2 * 0 + _ ≤ _; exact Nat.le_of_eq rfl) (hb hby d25_11) (fun _ _ => ⟨rfl, e2', (by decide : 0 + 0 ≤ _), (by decide : 0 + 0 ≤ _)⟩)
  dsimp only [Pt.U, Pt.locs, Pt.cells, Pt.slots] at X4 l4 y4 z4 st4 hQ4
  subst l4 y4 z4
  obtain ⟨h4, e4⟩ : ∃ z, T4.heap = z := ⟨_, rfl⟩
  rw [e4] at hQ4
  obtain ⟨rfl, N4q, hh4⟩ := hQ4
  have N5 := Fr.app N3 N4q
  have e4' : T4.heap = h0 := e4.trans hh4
  have pre6 : ∀ t, own_S p e below m T4 14 #[lvR o_, lvI (1 : Int32)] [(.ref v1_)] t → G t := by
    intro t kt
    refine pre0 t ?_
    show own_S p e below m s₁ 0 #[lvR o_, lvI (1 : Int32)] [] _
    refine XS.iloadN X0.here hx rfl (hb hby d25_0) rfl ?_
    refine XS.aloadN X0.here hx rfl (hb hby d25_1) rfl rfl ?_
    show own_S p e below m s₁ 2 #[lvR o_, lvI (1 : Int32)] [(.ref o_), (.int (1 : Int32))] _
    refine st1 _ ?_
    show own_S p e below m T1 5 #[lvR o_, lvI (1 : Int32)] [(.int (2 : Int32)), (.int (1 : Int32))] _
    refine st2 _ ?_
    refine XS.pop X2.here hx rfl (hb hby d25_8) rfl rfl ?_
    refine XS.aloadN X2.here hx rfl (hb hby d25_9) rfl rfl ?_
    refine XS.iloadN X2.here hx rfl (hb hby d25_10) rfl ?_
    show own_S p e below m T2 11 #[lvR o_, lvI (1 : Int32)] [(.int (1 : Int32)), (.ref o_)] _
    refine st4.trans ?_
    exact kt
  obtain ⟨fs, hr, hrun, hended, hW, hsame⟩ := X4.leave (v := some (.ref v1_)) (fun h => by rw [Bd.returns] at h; cases h)
  refine ⟨_, _, hG _ (pre6 _ (retOut X4 hx Bd.returns rfl (Or.inr (Or.inr (Or.inr (Or.inr ⟨rfl, rfl, rfl⟩)))) (hb hby d25_14) hr)), hrun, hended, _, _, rfl, ?_, ⟨_, rfl⟩, hW, hsame.mono (by decide) (by decide)⟩
  show Qget1_ Z o_ ar_ ka_ v0_ v1_ h0 n0 _ T4.heap _
  rw [e4']
  exact ⟨rfl, N5, rfl⟩
theorem d28_0 : decode jdk_38_method_8_code 0 = .ok (.aload_n 0, 1) := by decide +kernel
theorem d28_1 : decode jdk_38_method_8_code 1 = .ok (.getfield 48, 3) := by decide +kernel
theorem d28_4 : decode jdk_38_method_8_code 4 = .ok (.ireturn, 1) := by decide +kernel
theorem efSize (m : MethodId) (o_ : Addr) : entryFrame m #[(.ref o_)] 1 = mkF m 0 #[lvR o_] [] := by first | (simp [entryFrame, mkF, argsToLocals, Value.category]; done) | rfl
def QSize (Z : State) (o_ : Addr) (n_ : Int32) (h0 : Heap) (n0 : Nat) (v : Option Value) (h : Heap) (L : List Loc) : Prop := v = some (.int n_) ∧ Fr n0 L ∧ h = h0
set_option maxRecDepth 65536 in
set_option maxHeartbeats 40000000 in
theorem rmSize (l : Launch) (Z : State) (a0 : Array Value) (hw : ∀ d ∈ tables_1, d.before a0 Z = true) (ws : List Jvm.Cond) (o_ : Addr) (n_ : Int32) (h0 : Heap) (n0 : Nat) (O0 : Old Z n0 h0) (P0 : Fld Z h0 o_ "java/util/ArrayList" "size" "I" (.int n_)) :
    MetFree l (⟨"java/util/ArrayList", "size", "()I"⟩ : MethodName) (head1 (Jvm.Cond.code (⟨"java/util/ArrayList", "size", "()I"⟩ : MethodName) jdk_38_method_8_code 1 (some .int) :: ws) ({ frames := 0, cells := 0, slots := 0, locals := 0 } : Room)) (fun a U => a = #[(.ref o_)] ∧ Z.Warmed39 U.vm ∧ U.heap = h0) (fun _ _ _ _ _ => True) (fun _ U o U' => ∃ v L, o = .returned v ∧ QSize Z o_ n_ h0 n0 v U'.heap L ∧ FrameEnd U o U' L ({ frames := 0, cells := 0, slots := 0, locals := 0 } : Room).cells ({ frames := 0, cells := 0, slots := 0, locals := 0 } : Room).slots) := by
  refine MetFree.of_bodySF (plainFor_of_name pn_5) hisR ?_
  intro p e s m args below meth c s₁ Bd hml0 hP hK
  obtain ⟨rfl, hZ, hh⟩ := hP
  have hx := Bd.exec
  have hby := Bd.bytes
  have hml : c.maxLocals = 1 := hml0
  have hown : s.vm.findClass "java/util/ArrayList" = some m.cls := findClass_of_methodNamed Bd.named
  have hnm := (name_of_methodNamed Bd.named Bd.method).1
  have X0 : Stand p l e ({ frames := 0, cells := 0, slots := 0, locals := 0 } : Room) s m #[(.ref o_)] below meth c s₁ [] 0 0 := Stand.of_body Bd
  have e0 : s₁.heap = h0 := by rw [← hh, Bd.state]; rfl
  have N0 := Fr.nil n0
  obtain ⟨G, pre0, hG⟩ : ∃ G : State → Prop, (∀ t, own_S p e below m s₁ 0 #[lvR o_] [] t → G t) ∧ (∀ t, G t → Steps p.tables e below (s₁.setTop (entryFrame m #[(.ref o_)] 1)) t) := ⟨fun t => Steps p.tables e below (s₁.setTop (entryFrame m #[(.ref o_)] 1)) t, fun t k => castTop (efSize m o_) k, fun _ k => k⟩
  have K0 : Keep h0 h0 [] := Keep.refl _ _
  obtain ⟨T1, X1, e1, st1⟩ := getF X0 hx hZ hown (host := "") (Or.inl (own_w hw 128 rfl)) Via.refl e0 P0 (g := (mkF m 1 #[lvR o_] [(.ref o_)])) rfl rfl (hb hby d28_1)
  have pre2 : ∀ t, own_S p e below m T1 4 #[lvR o_] [(.int n_)] t → G t := by
    intro t kt
    refine pre0 t ?_
    show own_S p e below m s₁ 0 #[lvR o_] [] _
    refine XS.aloadN X0.here hx rfl (hb hby d28_0) rfl rfl ?_
    show own_S p e below m s₁ 1 #[lvR o_] [(.ref o_)] _
    refine st1 _ ?_
    exact kt
  obtain ⟨fs, hr, hrun, hended, hW, hsame⟩ := X1.leave (v := some (.int n_)) (fun h => by rw [Bd.returns] at h; cases h)
  refine ⟨_, _, hG _ (pre2 _ (retOut X1 hx Bd.returns rfl (Or.inl ⟨rfl, Or.inl rfl, _, rfl⟩) (hb hby d28_4) hr)), hrun, hended, _, _, rfl, ?_, ⟨_, rfl⟩, hW, hsame.mono (by decide) (by decide)⟩
  show QSize Z o_ n_ h0 n0 _ T1.heap _
  rw [e1]
  exact ⟨rfl, N0, rfl⟩
theorem d29_0 : decode prog_41_method_1_code 0 = .ok (.aload_n 0, 1) := by decide +kernel
theorem d29_1 : decode prog_41_method_1_code 1 = .ok (.invokespecial 1, 3) := by decide +kernel
theorem d29_4 : decode prog_41_method_1_code 4 = .ok (.aload_n 0, 1) := by decide +kernel
theorem d29_5 : decode prog_41_method_1_code 5 = .ok (.iload_n 1, 1) := by decide +kernel
theorem d29_6 : decode prog_41_method_1_code 6 = .ok (.putfield 7, 3) := by decide +kernel
theorem d29_9 : decode prog_41_method_1_code 9 = .ok (.aload_n 0, 1) := by decide +kernel
theorem d29_10 : decode prog_41_method_1_code 10 = .ok (.iload_n 1, 1) := by decide +kernel
theorem d29_11 : decode prog_41_method_1_code 11 = .ok (.newarray .double, 2) := by decide +kernel
theorem d29_13 : decode prog_41_method_1_code 13 = .ok (.putfield 13, 3) := by decide +kernel
theorem d29_16 : decode prog_41_method_1_code 16 = .ok (.aload_n 0, 1) := by decide +kernel
theorem d29_17 : decode prog_41_method_1_code 17 = .ok (.iload_n 1, 1) := by decide +kernel
theorem d29_18 : decode prog_41_method_1_code 18 = .ok (.newarray .double, 2) := by decide +kernel
theorem d29_20 : decode prog_41_method_1_code 20 = .ok (.putfield 17, 3) := by decide +kernel
theorem d29_23 : decode prog_41_method_1_code 23 = .ok (.aload_n 0, 1) := by decide +kernel
theorem d29_24 : decode prog_41_method_1_code 24 = .ok (.iload_n 1, 1) := by decide +kernel
theorem d29_25 : decode prog_41_method_1_code 25 = .ok (.newarray .double, 2) := by decide +kernel
theorem d29_27 : decode prog_41_method_1_code 27 = .ok (.putfield 20, 3) := by decide +kernel
theorem d29_30 : decode prog_41_method_1_code 30 = .ok (.aload_n 0, 1) := by decide +kernel
theorem d29_31 : decode prog_41_method_1_code 31 = .ok (.iload_n 1, 1) := by decide +kernel
theorem d29_32 : decode prog_41_method_1_code 32 = .ok (.newarray .double, 2) := by decide +kernel
theorem d29_34 : decode prog_41_method_1_code 34 = .ok (.putfield 23, 3) := by decide +kernel
theorem d29_37 : decode prog_41_method_1_code 37 = .ok (.aload_n 0, 1) := by decide +kernel
theorem d29_38 : decode prog_41_method_1_code 38 = .ok (.iload_n 1, 1) := by decide +kernel
theorem d29_39 : decode prog_41_method_1_code 39 = .ok (.newarray .long, 2) := by decide +kernel
theorem d29_41 : decode prog_41_method_1_code 41 = .ok (.putfield 26, 3) := by decide +kernel
theorem d29_44 : decode prog_41_method_1_code 44 = .ok (.aload_n 0, 1) := by decide +kernel
theorem d29_45 : decode prog_41_method_1_code 45 = .ok (.iload_n 1, 1) := by decide +kernel
theorem d29_46 : decode prog_41_method_1_code 46 = .ok (.newarray .long, 2) := by decide +kernel
theorem d29_48 : decode prog_41_method_1_code 48 = .ok (.putfield 30, 3) := by decide +kernel
theorem d29_51 : decode prog_41_method_1_code 51 = .ok (.return_, 1) := by decide +kernel
theorem efinit24 (m : MethodId) (o0_ : Addr) : entryFrame m #[(.ref o0_), (.int (2 : Int32))] 2 = mkF m 0 #[lvR o0_, lvI (2 : Int32)] [] := by first | (simp [entryFrame, mkF, argsToLocals, Value.category]; done) | rfl
def Qinit24 (Z : State) (o0_ : Addr) (h0 : Heap) (n0 : Nat) (v : Option Value) (h : Heap) (L : List Loc) : Prop := ∃ k5 : ClassId, ∃ k18 : ClassId, ∃ k35 : ClassId, ∃ k54 : ClassId, ∃ k75 : ClassId, ∃ k98 : ClassId, ∃ nb5 : Addr, ∃ nb18 : Addr, ∃ nb35 : Addr, ∃ nb54 : Addr, ∃ nb75 : Addr, ∃ nb98 : Addr, v = none ∧ Fr n0 L ∧ Keep h0 h [o0_] ∧ h0.size ≤ nb5 ∧ h0.size ≤ nb18 ∧ h0.size ≤ nb35 ∧ h0.size ≤ nb54 ∧ h0.size ≤ nb75 ∧ h0.size ≤ nb98 ∧ nb5 ≠ nb18 ∧ nb5 ≠ nb35 ∧ nb5 ≠ nb54 ∧ nb5 ≠ nb75 ∧ nb5 ≠ nb98 ∧ nb18 ≠ nb35 ∧ nb18 ≠ nb54 ∧ nb18 ≠ nb75 ∧ nb18 ≠ nb98 ∧ nb35 ≠ nb54 ∧ nb35 ≠ nb75 ∧ nb35 ≠ nb98 ∧ nb54 ≠ nb75 ∧ nb54 ≠ nb98 ∧ nb75 ≠ nb98 ∧ Exa Z h o0_ cn1 ∧ Fld Z h o0_ cn1 "collections" "I" (.int (2 : Int32)) ∧ Fld Z h o0_ cn1 "rSums" "[D" (.ref nb5) ∧ Fld Z h o0_ cn1 "rHatSums" "[D" (.ref nb18) ∧ Fld Z h o0_ cn1 "pSums" "[D" (.ref nb35) ∧ Fld Z h o0_ cn1 "cpSums" "[D" (.ref nb54) ∧ Fld Z h o0_ cn1 "found" "[J" (.ref nb75) ∧ Fld Z h o0_ cn1 "best" "[J" (.ref nb98) ∧ Fld Z h o0_ cn1 "queries" "I" (.int (0 : Int32)) ∧ Fld Z h o0_ cn1 "relevant" "J" (.long (0 : Int64)) ∧ Arv Z h nb5 k5 .double (2 : Int32) [(.double (0 : UInt64)), (.double (0 : UInt64))] (.double (0 : UInt64)) ∧ Exa Z h nb5 "[D" ∧ Arv Z h nb18 k18 .double (2 : Int32) [(.double (0 : UInt64)), (.double (0 : UInt64))] (.double (0 : UInt64)) ∧ Exa Z h nb18 "[D" ∧ Arv Z h nb35 k35 .double (2 : Int32) [(.double (0 : UInt64)), (.double (0 : UInt64))] (.double (0 : UInt64)) ∧ Exa Z h nb35 "[D" ∧ Arv Z h nb54 k54 .double (2 : Int32) [(.double (0 : UInt64)), (.double (0 : UInt64))] (.double (0 : UInt64)) ∧ Exa Z h nb54 "[D" ∧ Arv Z h nb75 k75 .long (2 : Int32) [(.long (0 : Int64)), (.long (0 : Int64))] (.long (0 : Int64)) ∧ Exa Z h nb75 "[J" ∧ Arv Z h nb98 k98 .long (2 : Int32) [(.long (0 : Int64)), (.long (0 : Int64))] (.long (0 : Int64)) ∧ Exa Z h nb98 "[J"
set_option maxRecDepth 65536 in
set_option maxHeartbeats 40000000 in
theorem rminit24 (l : Launch) (Z : State) (a0 : Array Value) (hw : ∀ d ∈ tables_1, d.before a0 Z = true) (ws : List Jvm.Cond) (o0_ : Addr) (h0 : Heap) (n0 : Nat) (O0 : Old Z n0 h0) (P0 : Exa Z h0 o0_ cn1) (P1 : Fld Z h0 o0_ cn1 "collections" "I" (.int (0 : Int32))) (P2 : Fld Z h0 o0_ cn1 "rSums" "[D" .null) (P3 : Fld Z h0 o0_ cn1 "rHatSums" "[D" .null) (P4 : Fld Z h0 o0_ cn1 "pSums" "[D" .null) (P5 : Fld Z h0 o0_ cn1 "cpSums" "[D" .null) (P6 : Fld Z h0 o0_ cn1 "found" "[J" .null) (P7 : Fld Z h0 o0_ cn1 "best" "[J" .null) (P8 : Fld Z h0 o0_ cn1 "queries" "I" (.int (0 : Int32))) (P9 : Fld Z h0 o0_ cn1 "relevant" "J" (.long (0 : Int64))) (P10 : n0 ≤ o0_) :
    MetFree l (⟨"com/example/shortlist/shortlist/SelectionMeasures", "<init>", "(I)V"⟩ : MethodName) (head1 (Jvm.Cond.code (⟨"com/example/shortlist/shortlist/SelectionMeasures", "<init>", "(I)V"⟩ : MethodName) prog_41_method_1_code 2 none :: ws) ({ frames := 1, cells := 6, slots := 12, locals := 12 } : Room)) (fun a U => a = #[(.ref o0_), (.int (2 : Int32))] ∧ Z.Warmed39 U.vm ∧ U.heap = h0) (fun _ _ _ _ _ => True) (fun _ U o U' => ∃ v L, o = .returned v ∧ Qinit24 Z o0_ h0 n0 v U'.heap L ∧ FrameEnd U o U' L ({ frames := 1, cells := 6, slots := 12, locals := 12 } : Room).cells ({ frames := 1, cells := 6, slots := 12, locals := 12 } : Room).slots) := by
  refine MetFree.of_bodySF (plainFor_of_name pn_2) hisR ?_
  intro p e s m args below meth c s₁ Bd hml0 hP hK
  obtain ⟨rfl, hZ, hh⟩ := hP
  have hx := Bd.exec
  have hby := Bd.bytes
  have hml : c.maxLocals = 2 := hml0
  have hown : s.vm.findClass "com/example/shortlist/shortlist/SelectionMeasures" = some m.cls := findClass_of_methodNamed Bd.named
  have hnm := (name_of_methodNamed Bd.named Bd.method).1
  have X0 : Stand p l e ({ frames := 1, cells := 6, slots := 12, locals := 12 } : Room) s m #[(.ref o0_), (.int (2 : Int32))] below meth c s₁ [] 0 0 := Stand.of_body Bd
  have e0 : s₁.heap = h0 := by rw [← hh, Bd.state]; rfl
  have N0 := Fr.nil n0
  obtain ⟨G, pre0, hG⟩ : ∃ G : State → Prop, (∀ t, own_S p e below m s₁ 0 #[lvR o0_, lvI (2 : Int32)] [] t → G t) ∧ (∀ t, G t → Steps p.tables e below (s₁.setTop (entryFrame m #[(.ref o0_), (.int (2 : Int32))] 2)) t) := ⟨fun t => Steps p.tables e below (s₁.setTop (entryFrame m #[(.ref o0_), (.int (2 : Int32))] 2)) t, fun t k => castTop (efinit24 m o0_) k, fun _ k => k⟩
  have K0 : Keep h0 h0 [o0_] := Keep.refl _ _
  obtain ⟨T1, X1, e1, st1⟩ := initO X0 hx hZ hown (own_w hw 8 rfl) (own_w hw 9 rfl) (own_w hw 10 rfl) e0 (g := (mkF m 1 #[lvR o0_, lvI (2 : Int32)] [(.ref o0_)])) rfl (by rw [hml]; rfl) rfl (hb hby d29_1) (by decide) (W := 0) (by show 2 * 0 + _ ≤ _; exact Nat.le_of_eq rfl) (by decide)
  obtain ⟨T2, h2, X2, e2, W2, st2⟩ := putF X1 hx hZ hown (host := "") (Or.inl (own_w hw 11 rfl)) Via.refl e1 P1 P0 (Or.inr ⟨(own_w hw 12 rfl), rfl, hnm⟩) (own_w hw 3 rfl) (ty := .int) (by decide) rfl rfl (g := (mkF m 6 #[lvR o0_, lvI (2 : Int32)] [(.int (2 : Int32)), (.ref o0_)])) rfl rfl (hb hby d29_6)
  have N3 := Fr.snoc X2 N0 P10
  have f4 : Fld Z h2 o0_ cn1 "collections" "I" (.int (2 : Int32)) := P1.same W2
  obtain ⟨T5, h5, k5, X5, e5, E5, A5, Z5, st5⟩ := newPE X2 hx hZ (own_w hw 13 rfl) e2 (g := (mkF m 11 #[lvR o0_, lvI (2 : Int32)] [(.int (2 : Int32)), (.ref o0_)])) rfl (hb hby d29_11) rfl (by decide) (cap := 2) (by decide) (by decide) (by decide) (by decide) (ad := "[D") (by decide)
  obtain ⟨b5, g5⟩ : ∃ z, z = h2.size := ⟨_, rfl⟩
  rw [← g5] at A5 Z5 st5
  have f6 : Old Z n0 h2 := O0.wr W2 P10
  have ge7 : n0 ≤ b5 := Nat.le_trans (Nat.le_trans (Nat.le_of_eq f6.1.symm) f6.2.1) (Nat.le_of_eq g5.symm)
  have f8 : Keep h0 h2 [o0_] := K0.wr W2 (Or.inl (List.mem_of_getElem? (i := 0) rfl))
  have sz9 : h0.size ≤ b5 := Nat.le_trans f8.1 (Nat.le_of_eq g5.symm)
  have f10 : Arv Z h5 b5 k5 .double (2 : Int32) [(.double (0 : UInt64)), (.double (0 : UInt64))] (.double (0 : UInt64)) := (Arv.new A5 (by decide)).pad (pad_rep [] (.double (0 : UInt64)) 2)
  have f11 : Fld Z h2 o0_ cn1 "rSums" "[D" .null := P2.other W2 (Or.inr (slot_ne (Or.inr (own_w hw 15 rfl)) (Or.inr (own_w hw 12 rfl)) (by decide) (t := (.array .double)) (t' := .int) (by decide) (by decide)))
  have f12 : Fld Z h5 o0_ cn1 "rSums" "[D" .null := f11.ext E5
  have f13 : Exa Z h2 o0_ cn1 := P0.wr W2
  have f14 : Exa Z h5 o0_ cn1 := f13.ext E5
  obtain ⟨T15, h15, X15, e15, W15, st15⟩ := putF X5 hx hZ hown (host := "") (Or.inl (own_w hw 14 rfl)) Via.refl e5 f12 f14 (Or.inr ⟨(own_w hw 15 rfl), rfl, hnm⟩) (own_w hw 3 rfl) (ty := (.array .double)) (by decide) rfl rfl (g := (mkF m 13 #[lvR o0_, lvI (2 : Int32)] [(.ref b5), (.ref o0_)])) rfl rfl (hb hby d29_13)
  have N16 := Fr.snoc X15 N3 P10
  have f17 : Fld Z h15 o0_ cn1 "rSums" "[D" (.ref b5) := f12.same W15
  obtain ⟨T18, h18, k18, X18, e18, E18, A18, Z18, st18⟩ := newPE X15 hx hZ (own_w hw 13 rfl) e15 (g := (mkF m 18 #[lvR o0_, lvI (2 : Int32)] [(.int (2 : Int32)), (.ref o0_)])) rfl (hb hby d29_18) rfl (by decide) (cap := 2) (by decide) (by decide) (by decide) (by decide) (ad := "[D") (by decide)
  obtain ⟨b18, g18⟩ : ∃ z, z = h15.size := ⟨_, rfl⟩
  rw [← g18] at A18 Z18 st18
  have f19 : Old Z n0 h5 := f6.ext E5
  have f20 : Old Z n0 h15 := f19.wr W15 P10
  have ge21 : n0 ≤ b18 := Nat.le_trans (Nat.le_trans (Nat.le_of_eq f20.1.symm) f20.2.1) (Nat.le_of_eq g18.symm)
  have f22 : Keep h0 h5 [o0_] := f8.ext E5
  have f23 : Keep h0 h15 [o0_] := f22.wr W15 (Or.inl (List.mem_of_getElem? (i := 0) rfl))
  have sz24 : h0.size ≤ b18 := Nat.le_trans f23.1 (Nat.le_of_eq g18.symm)
  have f25 : Arv Z h18 b18 k18 .double (2 : Int32) [(.double (0 : UInt64)), (.double (0 : UInt64))] (.double (0 : UInt64)) := (Arv.new A18 (by decide)).pad (pad_rep [] (.double (0 : UInt64)) 2)
  have f26 : Fld Z h2 o0_ cn1 "rHatSums" "[D" .null := P3.other W2 (Or.inr (slot_ne (Or.inr (own_w hw 17 rfl)) (Or.inr (own_w hw 12 rfl)) (by decide) (t := (.array .double)) (t' := .int) (by decide) (by decide)))
  have f27 : Fld Z h5 o0_ cn1 "rHatSums" "[D" .null := f26.ext E5
  have f28 : Fld Z h15 o0_ cn1 "rHatSums" "[D" .null := f27.other W15 (Or.inr (slot_ne (Or.inr (own_w hw 17 rfl)) (Or.inr (own_w hw 15 rfl)) (by decide) (t := (.array .double)) (t' := (.array .double)) (by decide) (by decide)))
  have f29 : Fld Z h18 o0_ cn1 "rHatSums" "[D" .null := f28.ext E18
  have f30 : Exa Z h15 o0_ cn1 := f14.wr W15
  have f31 : Exa Z h18 o0_ cn1 := f30.ext E18
  obtain ⟨T32, h32, X32, e32, W32, st32⟩ := putF X18 hx hZ hown (host := "") (Or.inl (own_w hw 16 rfl)) Via.refl e18 f29 f31 (Or.inr ⟨(own_w hw 17 rfl), rfl, hnm⟩) (own_w hw 3 rfl) (ty := (.array .double)) (by decide) rfl rfl (g := (mkF m 20 #[lvR o0_, lvI (2 : Int32)] [(.ref b18), (.ref o0_)])) rfl rfl (hb hby d29_20)
  have N33 := Fr.snoc X32 N16 P10
  have f34 : Fld Z h32 o0_ cn1 "rHatSums" "[D" (.ref b18) := f29.same W32
  obtain ⟨T35, h35, k35, X35, e35, E35, A35, Z35, st35⟩ := newPE X32 hx hZ (own_w hw 13 rfl) e32 (g := (mkF m 25 #[lvR o0_, lvI (2 : Int32)] [(.int (2 : Int32)), (.ref o0_)])) rfl (hb hby d29_25) rfl (by decide) (cap := 2) (by decide) (by decide) (by decide) (by decide) (ad := "[D") (by decide)
  obtain ⟨b35, g35⟩ : ∃ z, z = h32.size := ⟨_, rfl⟩
  rw [← g35] at A35 Z35 st35
  have f36 : Old Z n0 h18 := f20.ext E18
  have f37 : Old Z n0 h32 := f36.wr W32 P10
  have ge38 : n0 ≤ b35 := Nat.le_trans (Nat.le_trans (Nat.le_of_eq f37.1.symm) f37.2.1) (Nat.le_of_eq g35.symm)
  have f39 : Keep h0 h18 [o0_] := f23.ext E18
  have f40 : Keep h0 h32 [o0_] := f39.wr W32 (Or.inl (List.mem_of_getElem? (i := 0) rfl))
  have sz41 : h0.size ≤ b35 := Nat.le_trans f40.1 (Nat.le_of_eq g35.symm)
  have f42 : Arv Z h35 b35 k35 .double (2 : Int32) [(.double (0 : UInt64)), (.double (0 : UInt64))] (.double (0 : UInt64)) := (Arv.new A35 (by decide)).pad (pad_rep [] (.double (0 : UInt64)) 2)
  have f43 : Fld Z h2 o0_ cn1 "pSums" "[D" .null := P4.other W2 (Or.inr (slot_ne (Or.inr (own_w hw 19 rfl)) (Or.inr (own_w hw 12 rfl)) (by decide) (t := (.array .double)) (t' := .int) (by decide) (by decide)))
  have f44 : Fld Z h5 o0_ cn1 "pSums" "[D" .null := f43.ext E5
  have f45 : Fld Z h15 o0_ cn1 "pSums" "[D" .null := f44.other W15 (Or.inr (slot_ne (Or.inr (own_w hw 19 rfl)) (Or.inr (own_w hw 15 rfl)) (by decide) (t := (.array .double)) (t' := (.array .double)) (by decide) (by decide)))
  have f46 : Fld Z h18 o0_ cn1 "pSums" "[D" .null := f45.ext E18
  have f47 : Fld Z h32 o0_ cn1 "pSums" "[D" .null := f46.other W32 (Or.inr (slot_ne (Or.inr (own_w hw 19 rfl)) (Or.inr (own_w hw 17 rfl)) (by decide) (t := (.array .double)) (t' := (.array .double)) (by decide) (by decide)))
  have f48 : Fld Z h35 o0_ cn1 "pSums" "[D" .null := f47.ext E35
  have f49 : Exa Z h32 o0_ cn1 := f31.wr W32
  have f50 : Exa Z h35 o0_ cn1 := f49.ext E35
  obtain ⟨T51, h51, X51, e51, W51, st51⟩ := putF X35 hx hZ hown (host := "") (Or.inl (own_w hw 18 rfl)) Via.refl e35 f48 f50 (Or.inr ⟨(own_w hw 19 rfl), rfl, hnm⟩) (own_w hw 3 rfl) (ty := (.array .double)) (by decide) rfl rfl (g := (mkF m 27 #[lvR o0_, lvI (2 : Int32)] [(.ref b35), (.ref o0_)])) rfl rfl (hb hby d29_27)
  have N52 := Fr.snoc X51 N33 P10
  have f53 : Fld Z h51 o0_ cn1 "pSums" "[D" (.ref b35) := f48.same W51
  obtain ⟨T54, h54, k54, X54, e54, E54, A54, Z54, st54⟩ := newPE X51 hx hZ (own_w hw 13 rfl) e51 (g := (mkF m 32 #[lvR o0_, lvI (2 : Int32)] [(.int (2 : Int32)), (.ref o0_)])) rfl (hb hby d29_32) rfl (by decide) (cap := 2) (by decide) (by decide) (by decide) (by decide) (ad := "[D") (by decide)
  obtain ⟨b54, g54⟩ : ∃ z, z = h51.size := ⟨_, rfl⟩
  rw [← g54] at A54 Z54 st54
  have f55 : Old Z n0 h35 := f37.ext E35
  have f56 : Old Z n0 h51 := f55.wr W51 P10
  have ge57 : n0 ≤ b54 := Nat.le_trans (Nat.le_trans (Nat.le_of_eq f56.1.symm) f56.2.1) (Nat.le_of_eq g54.symm)
  have f58 : Keep h0 h35 [o0_] := f40.ext E35
  have f59 : Keep h0 h51 [o0_] := f58.wr W51 (Or.inl (List.mem_of_getElem? (i := 0) rfl))
  have sz60 : h0.size ≤ b54 := Nat.le_trans f59.1 (Nat.le_of_eq g54.symm)
  have f61 : Arv Z h54 b54 k54 .double (2 : Int32) [(.double (0 : UInt64)), (.double (0 : UInt64))] (.double (0 : UInt64)) := (Arv.new A54 (by decide)).pad (pad_rep [] (.double (0 : UInt64)) 2)
  have f62 : Fld Z h2 o0_ cn1 "cpSums" "[D" .null := P5.other W2 (Or.inr (slot_ne (Or.inr (own_w hw 21 rfl)) (Or.inr (own_w hw 12 rfl)) (by decide) (t := (.array .double)) (t' := .int) (by decide) (by decide)))
  have f63 : Fld Z h5 o0_ cn1 "cpSums" "[D" .null := f62.ext E5
  have f64 : Fld Z h15 o0_ cn1 "cpSums" "[D" .null := f63.other W15 (Or.inr (slot_ne (Or.inr (own_w hw 21 rfl)) (Or.inr (own_w hw 15 rfl)) (by decide) (t := (.array .double)) (t' := (.array .double)) (by decide) (by decide)))
  have f65 : Fld Z h18 o0_ cn1 "cpSums" "[D" .null := f64.ext E18
  have f66 : Fld Z h32 o0_ cn1 "cpSums" "[D" .null := f65.other W32 (Or.inr (slot_ne (Or.inr (own_w hw 21 rfl)) (Or.inr (own_w hw 17 rfl)) (by decide) (t := (.array .double)) (t' := (.array .double)) (by decide) (by decide)))
  have f67 : Fld Z h35 o0_ cn1 "cpSums" "[D" .null := f66.ext E35
  have f68 : Fld Z h51 o0_ cn1 "cpSums" "[D" .null := f67.other W51 (Or.inr (slot_ne (Or.inr (own_w hw 21 rfl)) (Or.inr (own_w hw 19 rfl)) (by decide) (t := (.array .double)) (t' := (.array .double)) (by decide) (by decide)))
  have f69 : Fld Z h54 o0_ cn1 "cpSums" "[D" .null := f68.ext E54
  have f70 : Exa Z h51 o0_ cn1 := f50.wr W51
  have f71 : Exa Z h54 o0_ cn1 := f70.ext E54
  obtain ⟨T72, h72, X72, e72, W72, st72⟩ := putF X54 hx hZ hown (host := "") (Or.inl (own_w hw 20 rfl)) Via.refl e54 f69 f71 (Or.inr ⟨(own_w hw 21 rfl), rfl, hnm⟩) (own_w hw 3 rfl) (ty := (.array .double)) (by decide) rfl rfl (g := (mkF m 34 #[lvR o0_, lvI (2 : Int32)] [(.ref b54), (.ref o0_)])) rfl rfl (hb hby d29_34)
  have N73 := Fr.snoc X72 N52 P10
  have f74 : Fld Z h72 o0_ cn1 "cpSums" "[D" (.ref b54) := f69.same W72
  obtain ⟨T75, h75, k75, X75, e75, E75, A75, Z75, st75⟩ := newPE X72 hx hZ (own_w hw 22 rfl) e72 (g := (mkF m 39 #[lvR o0_, lvI (2 : Int32)] [(.int (2 : Int32)), (.ref o0_)])) rfl (hb hby d29_39) rfl (by decide) (cap := 2) (by decide) (by decide) (by decide) (by decide) (ad := "[J") (by decide)
  obtain ⟨b75, g75⟩ : ∃ z, z = h72.size := ⟨_, rfl⟩
  rw [← g75] at A75 Z75 st75
  have f76 : Old Z n0 h54 := f56.ext E54
  have f77 : Old Z n0 h72 := f76.wr W72 P10
  have ge78 : n0 ≤ b75 := Nat.le_trans (Nat.le_trans (Nat.le_of_eq f77.1.symm) f77.2.1) (Nat.le_of_eq g75.symm)
  have f79 : Keep h0 h54 [o0_] := f59.ext E54
  have f80 : Keep h0 h72 [o0_] := f79.wr W72 (Or.inl (List.mem_of_getElem? (i := 0) rfl))
  have sz81 : h0.size ≤ b75 := Nat.le_trans f80.1 (Nat.le_of_eq g75.symm)
  have f82 : Arv Z h75 b75 k75 .long (2 : Int32) [(.long (0 : Int64)), (.long (0 : Int64))] (.long (0 : Int64)) := (Arv.new A75 (by decide)).pad (pad_rep [] (.long (0 : Int64)) 2)
  have f83 : Fld Z h2 o0_ cn1 "found" "[J" .null := P6.other W2 (Or.inr (slot_ne (Or.inr (own_w hw 24 rfl)) (Or.inr (own_w hw 12 rfl)) (by decide) (t := (.array .long)) (t' := .int) (by decide) (by decide)))
  have f84 : Fld Z h5 o0_ cn1 "found" "[J" .null := f83.ext E5
  have f85 : Fld Z h15 o0_ cn1 "found" "[J" .null := f84.other W15 (Or.inr (slot_ne (Or.inr (own_w hw 24 rfl)) (Or.inr (own_w hw 15 rfl)) (by decide) (t := (.array .long)) (t' := (.array .double)) (by decide) (by decide)))
  have f86 : Fld Z h18 o0_ cn1 "found" "[J" .null := f85.ext E18
  have f87 : Fld Z h32 o0_ cn1 "found" "[J" .null := f86.other W32 (Or.inr (slot_ne (Or.inr (own_w hw 24 rfl)) (Or.inr (own_w hw 17 rfl)) (by decide) (t := (.array .long)) (t' := (.array .double)) (by decide) (by decide)))
  have f88 : Fld Z h35 o0_ cn1 "found" "[J" .null := f87.ext E35
  have f89 : Fld Z h51 o0_ cn1 "found" "[J" .null := f88.other W51 (Or.inr (slot_ne (Or.inr (own_w hw 24 rfl)) (Or.inr (own_w hw 19 rfl)) (by decide) (t := (.array .long)) (t' := (.array .double)) (by decide) (by decide)))
  have f90 : Fld Z h54 o0_ cn1 "found" "[J" .null := f89.ext E54
  have f91 : Fld Z h72 o0_ cn1 "found" "[J" .null := f90.other W72 (Or.inr (slot_ne (Or.inr (own_w hw 24 rfl)) (Or.inr (own_w hw 21 rfl)) (by decide) (t := (.array .long)) (t' := (.array .double)) (by decide) (by decide)))
  have f92 : Fld Z h75 o0_ cn1 "found" "[J" .null := f91.ext E75
  have f93 : Exa Z h72 o0_ cn1 := f71.wr W72
  have f94 : Exa Z h75 o0_ cn1 := f93.ext E75
  obtain ⟨T95, h95, X95, e95, W95, st95⟩ := putF X75 hx hZ hown (host := "") (Or.inl (own_w hw 23 rfl)) Via.refl e75 f92 f94 (Or.inr ⟨(own_w hw 24 rfl), rfl, hnm⟩) (own_w hw 3 rfl) (ty := (.array .long)) (by decide) rfl rfl (g := (mkF m 41 #[lvR o0_, lvI (2 : Int32)] [(.ref b75), (.ref o0_)])) rfl rfl (hb hby d29_41)
  have N96 := Fr.snoc X95 N73 P10
  have f97 : Fld Z h95 o0_ cn1 "found" "[J" (.ref b75) := f92.same W95
  obtain ⟨T98, h98, k98, X98, e98, E98, A98, Z98, st98⟩ := newPE X95 hx hZ (own_w hw 22 rfl) e95 (g := (mkF m 46 #[lvR o0_, lvI (2 : Int32)] [(.int (2 : Int32)), (.ref o0_)])) rfl (hb hby d29_46) rfl (by decide) (cap := 2) (by decide) (by decide) (by decide) (by decide) (ad := "[J") (by decide)
  obtain ⟨b98, g98⟩ : ∃ z, z = h95.size := ⟨_, rfl⟩
  rw [← g98] at A98 Z98 st98
  have f99 : Old Z n0 h75 := f77.ext E75
  have f100 : Old Z n0 h95 := f99.wr W95 P10
  have ge101 : n0 ≤ b98 := Nat.le_trans (Nat.le_trans (Nat.le_of_eq f100.1.symm) f100.2.1) (Nat.le_of_eq g98.symm)
  have f102 : Keep h0 h75 [o0_] := f80.ext E75
  have f103 : Keep h0 h95 [o0_] := f102.wr W95 (Or.inl (List.mem_of_getElem? (i := 0) rfl))
  have sz104 : h0.size ≤ b98 := Nat.le_trans f103.1 (Nat.le_of_eq g98.symm)
  have f105 : Arv Z h98 b98 k98 .long (2 : Int32) [(.long (0 : Int64)), (.long (0 : Int64))] (.long (0 : Int64)) := (Arv.new A98 (by decide)).pad (pad_rep [] (.long (0 : Int64)) 2)
  have f106 : Fld Z h2 o0_ cn1 "best" "[J" .null := P7.other W2 (Or.inr (slot_ne (Or.inr (own_w hw 26 rfl)) (Or.inr (own_w hw 12 rfl)) (by decide) (t := (.array .long)) (t' := .int) (by decide) (by decide)))
  have f107 : Fld Z h5 o0_ cn1 "best" "[J" .null := f106.ext E5
  have f108 : Fld Z h15 o0_ cn1 "best" "[J" .null := f107.other W15 (Or.inr (slot_ne (Or.inr (own_w hw 26 rfl)) (Or.inr (own_w hw 15 rfl)) (by decide) (t := (.array .long)) (t' := (.array .double)) (by decide) (by decide)))
  have f109 : Fld Z h18 o0_ cn1 "best" "[J" .null := f108.ext E18
  have f110 : Fld Z h32 o0_ cn1 "best" "[J" .null := f109.other W32 (Or.inr (slot_ne (Or.inr (own_w hw 26 rfl)) (Or.inr (own_w hw 17 rfl)) (by decide) (t := (.array .long)) (t' := (.array .double)) (by decide) (by decide)))
  have f111 : Fld Z h35 o0_ cn1 "best" "[J" .null := f110.ext E35
  have f112 : Fld Z h51 o0_ cn1 "best" "[J" .null := f111.other W51 (Or.inr (slot_ne (Or.inr (own_w hw 26 rfl)) (Or.inr (own_w hw 19 rfl)) (by decide) (t := (.array .long)) (t' := (.array .double)) (by decide) (by decide)))
  have f113 : Fld Z h54 o0_ cn1 "best" "[J" .null := f112.ext E54
  have f114 : Fld Z h72 o0_ cn1 "best" "[J" .null := f113.other W72 (Or.inr (slot_ne (Or.inr (own_w hw 26 rfl)) (Or.inr (own_w hw 21 rfl)) (by decide) (t := (.array .long)) (t' := (.array .double)) (by decide) (by decide)))
  have f115 : Fld Z h75 o0_ cn1 "best" "[J" .null := f114.ext E75
  have f116 : Fld Z h95 o0_ cn1 "best" "[J" .null := f115.other W95 (Or.inr (slot_ne (Or.inr (own_w hw 26 rfl)) (Or.inr (own_w hw 24 rfl)) (by decide) (t := (.array .long)) (t' := (.array .long)) (by decide) (by decide)))
  have f117 : Fld Z h98 o0_ cn1 "best" "[J" .null := f116.ext E98
  have f118 : Exa Z h95 o0_ cn1 := f94.wr W95
  have f119 : Exa Z h98 o0_ cn1 := f118.ext E98
  obtain ⟨T120, h120, X120, e120, W120, st120⟩ := putF X98 hx hZ hown (host := "") (Or.inl (own_w hw 25 rfl)) Via.refl e98 f117 f119 (Or.inr ⟨(own_w hw 26 rfl), rfl, hnm⟩) (own_w hw 3 rfl) (ty := (.array .long)) (by decide) rfl rfl (g := (mkF m 48 #[lvR o0_, lvI (2 : Int32)] [(.ref b98), (.ref o0_)])) rfl rfl (hb hby d29_48)
  have N121 := Fr.snoc X120 N96 P10
  have f122 : Fld Z h120 o0_ cn1 "best" "[J" (.ref b98) := f117.same W120
  have pre123 : ∀ t, own_S p e below m T120 51 #[lvR o0_, lvI (2 : Int32)] [] t → G t := by
    intro t kt
    refine pre0 t ?_
    show own_S p e below m s₁ 0 #[lvR o0_, lvI (2 : Int32)] [] _
    refine XS.aloadN X0.here hx rfl (hb hby d29_0) rfl rfl ?_
    show own_S p e below m s₁ 1 #[lvR o0_, lvI (2 : Int32)] [(.ref o0_)] _
    refine st1 _ ?_
    refine XS.aloadN X1.here hx rfl (hb hby d29_4) rfl rfl ?_
    refine XS.iloadN X1.here hx rfl (hb hby d29_5) rfl ?_
    show own_S p e below m T1 6 #[lvR o0_, lvI (2 : Int32)] [(.int (2 : Int32)), (.ref o0_)] _
    refine st2 _ ?_
    refine XS.aloadN X2.here hx rfl (hb hby d29_9) rfl rfl ?_
    refine XS.iloadN X2.here hx rfl (hb hby d29_10) rfl ?_
    show own_S p e below m T2 11 #[lvR o0_, lvI (2 : Int32)] [(.int (2 : Int32)), (.ref o0_)] _
    refine st5 _ ?_
    show own_S p e below m T5 13 #[lvR o0_, lvI (2 : Int32)] [(.ref b5), (.ref o0_)] _
    refine st15 _ ?_
    refine XS.aloadN X15.here hx rfl (hb hby d29_16) rfl rfl ?_
    refine XS.iloadN X15.here hx rfl (hb hby d29_17) rfl ?_
    show own_S p e below m T15 18 #[lvR o0_, lvI (2 : Int32)] [(.int (2 : Int32)), (.ref o0_)] _
    refine st18 _ ?_
    show own_S p e below m T18 20 #[lvR o0_, lvI (2 : Int32)] [(.ref b18), (.ref o0_)] _
    refine st32 _ ?_
    refine XS.aloadN X32.here hx rfl (hb hby d29_23) rfl rfl ?_
    refine XS.iloadN X32.here hx rfl (hb hby d29_24) rfl ?_
    show own_S p e below m T32 25 #[lvR o0_, lvI (2 : Int32)] [(.int (2 : Int32)), (.ref o0_)] _
    refine st35 _ ?_
    show own_S p e below m T35 27 #[lvR o0_, lvI (2 : Int32)] [(.ref b35), (.ref o0_)] _
    refine st51 _ ?_
    refine XS.aloadN X51.here hx rfl (hb hby d29_30) rfl rfl ?_
    refine XS.iloadN X51.here hx rfl (hb hby d29_31) rfl ?_
    show own_S p e below m T51 32 #[lvR o0_, lvI (2 : Int32)] [(.int (2 : Int32)), (.ref o0_)] _
    refine st54 _ ?_
    show own_S p e below m T54 34 #[lvR o0_, lvI (2 : Int32)] [(.ref b54), (.ref o0_)] _
    refine st72 _ ?_
    refine XS.aloadN X72.here hx rfl (hb hby d29_37) rfl rfl ?_
    refine XS.iloadN X72.here hx rfl (hb hby d29_38) rfl ?_
    show own_S p e below m T72 39 #[lvR o0_, lvI (2 : Int32)] [(.int (2 : Int32)), (.ref o0_)] _
    refine st75 _ ?_
    show own_S p e below m T75 41 #[lvR o0_, lvI (2 : Int32)] [(.ref b75), (.ref o0_)] _
    refine st95 _ ?_
    refine XS.aloadN X95.here hx rfl (hb hby d29_44) rfl rfl ?_
    refine XS.iloadN X95.here hx rfl (hb hby d29_45) rfl ?_
    show own_S p e below m T95 46 #[lvR o0_, lvI (2 : Int32)] [(.int (2 : Int32)), (.ref o0_)] _
    refine st98 _ ?_
    show own_S p e below m T98 48 #[lvR o0_, lvI (2 : Int32)] [(.ref b98), (.ref o0_)] _
    refine st120 _ ?_
    exact kt
  have f125 : Keep h0 h98 [o0_] := f103.ext E98
  have f126 : Keep h0 h120 [o0_] := f125.wr W120 (Or.inl (List.mem_of_getElem? (i := 0) rfl))
  have ne128 : o0_ ≠ b5 := Nat.ne_of_lt (Nat.lt_of_lt_of_le f13.lt (Nat.le_of_eq g5.symm))
  have f127 : Arv Z h15 b5 k5 .double (2 : Int32) [(.double (0 : UInt64)), (.double (0 : UInt64))] (.double (0 : UInt64)) := f10.other W15 (Ne.symm ne128)
  have ne129 : b5 ≠ b18 := Nat.ne_of_lt (Nat.lt_of_lt_of_le f127.lt (Nat.le_of_eq g18.symm))
  have f130 : Arv Z h18 b5 k5 .double (2 : Int32) [(.double (0 : UInt64)), (.double (0 : UInt64))] (.double (0 : UInt64)) := f127.ext E18
  have f131 : Arv Z h32 b5 k5 .double (2 : Int32) [(.double (0 : UInt64)), (.double (0 : UInt64))] (.double (0 : UInt64)) := f130.other W32 (Ne.symm ne128)
  have ne132 : b5 ≠ b35 := Nat.ne_of_lt (Nat.lt_of_lt_of_le f131.lt (Nat.le_of_eq g35.symm))
  have f133 : Arv Z h35 b5 k5 .double (2 : Int32) [(.double (0 : UInt64)), (.double (0 : UInt64))] (.double (0 : UInt64)) := f131.ext E35
  have f134 : Arv Z h51 b5 k5 .double (2 : Int32) [(.double (0 : UInt64)), (.double (0 : UInt64))] (.double (0 : UInt64)) := f133.other W51 (Ne.symm ne128)
  have ne135 : b5 ≠ b54 := Nat.ne_of_lt (Nat.lt_of_lt_of_le f134.lt (Nat.le_of_eq g54.symm))
  have f136 : Arv Z h54 b5 k5 .double (2 : Int32) [(.double (0 : UInt64)), (.double (0 : UInt64))] (.double (0 : UInt64)) := f134.ext E54
  have f137 : Arv Z h72 b5 k5 .double (2 : Int32) [(.double (0 : UInt64)), (.double (0 : UInt64))] (.double (0 : UInt64)) := f136.other W72 (Ne.symm ne128)
  have ne138 : b5 ≠ b75 := Nat.ne_of_lt (Nat.lt_of_lt_of_le f137.lt (Nat.le_of_eq g75.symm))
  have f139 : Arv Z h75 b5 k5 .double (2 : Int32) [(.double (0 : UInt64)), (.double (0 : UInt64))] (.double (0 : UInt64)) := f137.ext E75
  have f140 : Arv Z h95 b5 k5 .double (2 : Int32) [(.double (0 : UInt64)), (.double (0 : UInt64))] (.double (0 : UInt64)) := f139.other W95 (Ne.symm ne128)
  have ne141 : b5 ≠ b98 := Nat.ne_of_lt (Nat.lt_of_lt_of_le f140.lt (Nat.le_of_eq g98.symm))
  have ne143 : o0_ ≠ b18 := Nat.ne_of_lt (Nat.lt_of_lt_of_le f30.lt (Nat.le_of_eq g18.symm))
  have f142 : Arv Z h32 b18 k18 .double (2 : Int32) [(.double (0 : UInt64)), (.double (0 : UInt64))] (.double (0 : UInt64)) := f25.other W32 (Ne.symm ne143)
  have ne144 : b18 ≠ b35 := Nat.ne_of_lt (Nat.lt_of_lt_of_le f142.lt (Nat.le_of_eq g35.symm))
  have f145 : Arv Z h35 b18 k18 .double (2 : Int32) [(.double (0 : UInt64)), (.double (0 : UInt64))] (.double (0 : UInt64)) := f142.ext E35
  have f146 : Arv Z h51 b18 k18 .double (2 : Int32) [(.double (0 : UInt64)), (.double (0 : UInt64))] (.double (0 : UInt64)) := f145.other W51 (Ne.symm ne143)
  have ne147 : b18 ≠ b54 := Nat.ne_of_lt (Nat.lt_of_lt_of_le f146.lt (Nat.le_of_eq g54.symm))
  have f148 : Arv Z h54 b18 k18 .double (2 : Int32) [(.double (0 : UInt64)), (.double (0 : UInt64))] (.double (0 : UInt64)) := f146.ext E54
  have f149 : Arv Z h72 b18 k18 .double (2 : Int32) [(.double (0 : UInt64)), (.double (0 : UInt64))] (.double (0 : UInt64)) := f148.other W72 (Ne.symm ne143)
  have ne150 : b18 ≠ b75 := Nat.ne_of_lt (Nat.lt_of_lt_of_le f149.lt (Nat.le_of_eq g75.symm))
  have f151 : Arv Z h75 b18 k18 .double (2 : Int32) [(.double (0 : UInt64)), (.double (0 : UInt64))] (.double (0 : UInt64)) := f149.ext E75
  have f152 : Arv Z h95 b18 k18 .double (2 : Int32) [(.double (0 : UInt64)), (.double (0 : UInt64))] (.double (0 : UInt64)) := f151.other W95 (Ne.symm ne143)
  have ne153 : b18 ≠ b98 := Nat.ne_of_lt (Nat.lt_of_lt_of_le f152.lt (Nat.le_of_eq g98.symm))
  have ne155 : o0_ ≠ b35 := Nat.ne_of_lt (Nat.lt_of_lt_of_le f49.lt (Nat.le_of_eq g35.symm))
  have f154 : Arv Z h51 b35 k35 .double (2 : Int32) [(.double (0 : UInt64)), (.double (0 : UInt64))] (.double (0 : UInt64)) := f42.other W51 (Ne.symm ne155)
  have ne156 : b35 ≠ b54 := Nat.ne_of_lt (Nat.lt_of_lt_of_le f154.lt (Nat.le_of_eq g54.symm))
  have f157 : Arv Z h54 b35 k35 .double (2 : Int32) [(.double (0 : UInt64)), (.double (0 : UInt64))] (.double (0 : UInt64)) := f154.ext E54
  have f158 : Arv Z h72 b35 k35 .double (2 : Int32) [(.double (0 : UInt64)), (.double (0 : UInt64))] (.double (0 : UInt64)) := f157.other W72 (Ne.symm ne155)
  have ne159 : b35 ≠ b75 := Nat.ne_of_lt (Nat.lt_of_lt_of_le f158.lt (Nat.le_of_eq g75.symm))
  have f160 : Arv Z h75 b35 k35 .double (2 : Int32) [(.double (0 : UInt64)), (.double (0 : UInt64))] (.double (0 : UInt64)) := f158.ext E75
  have f161 : Arv Z h95 b35 k35 .double (2 : Int32) [(.double (0 : UInt64)), (.double (0 : UInt64))] (.double (0 : UInt64)) := f160.other W95 (Ne.symm ne155)
  have ne162 : b35 ≠ b98 := Nat.ne_of_lt (Nat.lt_of_lt_of_le f161.lt (Nat.le_of_eq g98.symm))
  have ne164 : o0_ ≠ b54 := Nat.ne_of_lt (Nat.lt_of_lt_of_le f70.lt (Nat.le_of_eq g54.symm))
  have f163 : Arv Z h72 b54 k54 .double (2 : Int32) [(.double (0 : UInt64)), (.double (0 : UInt64))] (.double (0 : UInt64)) := f61.other W72 (Ne.symm ne164)
  have ne165 : b54 ≠ b75 := Nat.ne_of_lt (Nat.lt_of_lt_of_le f163.lt (Nat.le_of_eq g75.symm))
  have f166 : Arv Z h75 b54 k54 .double (2 : Int32) [(.double (0 : UInt64)), (.double (0 : UInt64))] (.double (0 : UInt64)) := f163.ext E75
  have f167 : Arv Z h95 b54 k54 .double (2 : Int32) [(.double (0 : UInt64)), (.double (0 : UInt64))] (.double (0 : UInt64)) := f166.other W95 (Ne.symm ne164)
  have ne168 : b54 ≠ b98 := Nat.ne_of_lt (Nat.lt_of_lt_of_le f167.lt (Nat.le_of_eq g98.symm))
  have ne170 : o0_ ≠ b75 := Nat.ne_of_lt (Nat.lt_of_lt_of_le f93.lt (Nat.le_of_eq g75.symm))
  have f169 : Arv Z h95 b75 k75 .long (2 : Int32) [(.long (0 : Int64)), (.long (0 : Int64))] (.long (0 : Int64)) := f82.other W95 (Ne.symm ne170)
  have ne171 : b75 ≠ b98 := Nat.ne_of_lt (Nat.lt_of_lt_of_le f169.lt (Nat.le_of_eq g98.symm))
  have f172 : Exa Z h120 o0_ cn1 := f119.wr W120
  have f173 : Fld Z h5 o0_ cn1 "collections" "I" (.int (2 : Int32)) := f4.ext E5
  have f174 : Fld Z h15 o0_ cn1 "collections" "I" (.int (2 : Int32)) := f173.other W15 (Or.inr (slot_ne (Or.inr (own_w hw 12 rfl)) (Or.inr (own_w hw 15 rfl)) (by decide) (t := .int) (t' := (.array .double)) (by decide) (by decide)))
  have f175 : Fld Z h18 o0_ cn1 "collections" "I" (.int (2 : Int32)) := f174.ext E18
  have f176 : Fld Z h32 o0_ cn1 "collections" "I" (.int (2 : Int32)) := f175.other W32 (Or.inr (slot_ne (Or.inr (own_w hw 12 rfl)) (Or.inr (own_w hw 17 rfl)) (by decide) (t := .int) (t' := (.array .double)) (by decide) (by decide)))
  have f177 : Fld Z h35 o0_ cn1 "collections" "I" (.int (2 : Int32)) := f176.ext E35
  have f178 : Fld Z h51 o0_ cn1 "collections" "I" (.int (2 : Int32)) := f177.other W51 (Or.inr (slot_ne (Or.inr (own_w hw 12 rfl)) (Or.inr (own_w hw 19 rfl)) (by decide) (t := .int) (t' := (.array .double)) (by decide) (by decide)))
  have f179 : Fld Z h54 o0_ cn1 "collections" "I" (.int (2 : Int32)) := f178.ext E54
  have f180 : Fld Z h72 o0_ cn1 "collections" "I" (.int (2 : Int32)) := f179.other W72 (Or.inr (slot_ne (Or.inr (own_w hw 12 rfl)) (Or.inr (own_w hw 21 rfl)) (by decide) (t := .int) (t' := (.array .double)) (by decide) (by decide)))
  have f181 : Fld Z h75 o0_ cn1 "collections" "I" (.int (2 : Int32)) := f180.ext E75
  have f182 : Fld Z h95 o0_ cn1 "collections" "I" (.int (2 : Int32)) := f181.other W95 (Or.inr (slot_ne (Or.inr (own_w hw 12 rfl)) (Or.inr (own_w hw 24 rfl)) (by decide) (t := .int) (t' := (.array .long)) (by decide) (by decide)))
  have f183 : Fld Z h98 o0_ cn1 "collections" "I" (.int (2 : Int32)) := f182.ext E98
  have f184 : Fld Z h120 o0_ cn1 "collections" "I" (.int (2 : Int32)) := f183.other W120 (Or.inr (slot_ne (Or.inr (own_w hw 12 rfl)) (Or.inr (own_w hw 26 rfl)) (by decide) (t := .int) (t' := (.array .long)) (by decide) (by decide)))
  have f185 : Fld Z h18 o0_ cn1 "rSums" "[D" (.ref b5) := f17.ext E18
  have f186 : Fld Z h32 o0_ cn1 "rSums" "[D" (.ref b5) := f185.other W32 (Or.inr (slot_ne (Or.inr (own_w hw 15 rfl)) (Or.inr (own_w hw 17 rfl)) (by decide) (t := (.array .double)) (t' := (.array .double)) (by decide) (by decide)))
  have f187 : Fld Z h35 o0_ cn1 "rSums" "[D" (.ref b5) := f186.ext E35
  have f188 : Fld Z h51 o0_ cn1 "rSums" "[D" (.ref b5) := f187.other W51 (Or.inr (slot_ne (Or.inr (own_w hw 15 rfl)) (Or.inr (own_w hw 19 rfl)) (by decide) (t := (.array .double)) (t' := (.array .double)) (by decide) (by decide)))
  have f189 : Fld Z h54 o0_ cn1 "rSums" "[D" (.ref b5) := f188.ext E54
  have f190 : Fld Z h72 o0_ cn1 "rSums" "[D" (.ref b5) := f189.other W72 (Or.inr (slot_ne (Or.inr (own_w hw 15 rfl)) (Or.inr (own_w hw 21 rfl)) (by decide) (t := (.array .double)) (t' := (.array .double)) (by decide) (by decide)))
  have f191 : Fld Z h75 o0_ cn1 "rSums" "[D" (.ref b5) := f190.ext E75
  have f192 : Fld Z h95 o0_ cn1 "rSums" "[D" (.ref b5) := f191.other W95 (Or.inr (slot_ne (Or.inr (own_w hw 15 rfl)) (Or.inr (own_w hw 24 rfl)) (by decide) (t := (.array .double)) (t' := (.array .long)) (by decide) (by decide)))
  have f193 : Fld Z h98 o0_ cn1 "rSums" "[D" (.ref b5) := f192.ext E98
  have f194 : Fld Z h120 o0_ cn1 "rSums" "[D" (.ref b5) := f193.other W120 (Or.inr (slot_ne (Or.inr (own_w hw 15 rfl)) (Or.inr (own_w hw 26 rfl)) (by decide) (t := (.array .double)) (t' := (.array .long)) (by decide) (by decide)))
  have f195 : Fld Z h35 o0_ cn1 "rHatSums" "[D" (.ref b18) := f34.ext E35
  have f196 : Fld Z h51 o0_ cn1 "rHatSums" "[D" (.ref b18) := f195.other W51 (Or.inr (slot_ne (Or.inr (own_w hw 17 rfl)) (Or.inr (own_w hw 19 rfl)) (by decide) (t := (.array .double)) (t' := (.array .double)) (by decide) (by decide)))
  have f197 : Fld Z h54 o0_ cn1 "rHatSums" "[D" (.ref b18) := f196.ext E54
  have f198 : Fld Z h72 o0_ cn1 "rHatSums" "[D" (.ref b18) := f197.other W72 (Or.inr (slot_ne (Or.inr (own_w hw 17 rfl)) (Or.inr (own_w hw 21 rfl)) (by decide) (t := (.array .double)) (t' := (.array .double)) (by decide) (by decide)))
  have f199 : Fld Z h75 o0_ cn1 "rHatSums" "[D" (.ref b18) := f198.ext E75
  have f200 : Fld Z h95 o0_ cn1 "rHatSums" "[D" (.ref b18) := f199.other W95 (Or.inr (slot_ne (Or.inr (own_w hw 17 rfl)) (Or.inr (own_w hw 24 rfl)) (by decide) (t := (.array .double)) (t' := (.array .long)) (by decide) (by decide)))
  have f201 : Fld Z h98 o0_ cn1 "rHatSums" "[D" (.ref b18) := f200.ext E98
  have f202 : Fld Z h120 o0_ cn1 "rHatSums" "[D" (.ref b18) := f201.other W120 (Or.inr (slot_ne (Or.inr (own_w hw 17 rfl)) (Or.inr (own_w hw 26 rfl)) (by decide) (t := (.array .double)) (t' := (.array .long)) (by decide) (by decide)))
  have f203 : Fld Z h54 o0_ cn1 "pSums" "[D" (.ref b35) := f53.ext E54
  have f204 : Fld Z h72 o0_ cn1 "pSums" "[D" (.ref b35) := f203.other W72 (Or.inr (slot_ne (Or.inr (own_w hw 19 rfl)) (Or.inr (own_w hw 21 rfl)) (by decide) (t := (.array .double)) (t' := (.array .double)) (by decide) (by decide)))
  have f205 : Fld Z h75 o0_ cn1 "pSums" "[D" (.ref b35) := f204.ext E75
  have f206 : Fld Z h95 o0_ cn1 "pSums" "[D" (.ref b35) := f205.other W95 (Or.inr (slot_ne (Or.inr (own_w hw 19 rfl)) (Or.inr (own_w hw 24 rfl)) (by decide) (t := (.array .double)) (t' := (.array .long)) (by decide) (by decide)))
  have f207 : Fld Z h98 o0_ cn1 "pSums" "[D" (.ref b35) := f206.ext E98
  have f208 : Fld Z h120 o0_ cn1 "pSums" "[D" (.ref b35) := f207.other W120 (Or.inr (slot_ne (Or.inr (own_w hw 19 rfl)) (Or.inr (own_w hw 26 rfl)) (by decide) (t := (.array .double)) (t' := (.array .long)) (by decide) (by decide)))
  have f209 : Fld Z h75 o0_ cn1 "cpSums" "[D" (.ref b54) := f74.ext E75
  have f210 : Fld Z h95 o0_ cn1 "cpSums" "[D" (.ref b54) := f209.other W95 (Or.inr (slot_ne (Or.inr (own_w hw 21 rfl)) (Or.inr (own_w hw 24 rfl)) (by decide) (t := (.array .double)) (t' := (.array .long)) (by decide) (by decide)))
  have f211 : Fld Z h98 o0_ cn1 "cpSums" "[D" (.ref b54) := f210.ext E98
  have f212 : Fld Z h120 o0_ cn1 "cpSums" "[D" (.ref b54) := f211.other W120 (Or.inr (slot_ne (Or.inr (own_w hw 21 rfl)) (Or.inr (own_w hw 26 rfl)) (by decide) (t := (.array .double)) (t' := (.array .long)) (by decide) (by decide)))
  have f213 : Fld Z h98 o0_ cn1 "found" "[J" (.ref b75) := f97.ext E98
  have f214 : Fld Z h120 o0_ cn1 "found" "[J" (.ref b75) := f213.other W120 (Or.inr (slot_ne (Or.inr (own_w hw 24 rfl)) (Or.inr (own_w hw 26 rfl)) (by decide) (t := (.array .long)) (t' := (.array .long)) (by decide) (by decide)))
  have f215 : Fld Z h2 o0_ cn1 "queries" "I" (.int (0 : Int32)) := P8.other W2 (Or.inr (slot_ne (Or.inl (own_w hw 59 rfl)) (Or.inr (own_w hw 12 rfl)) (by decide) (t := .int) (t' := .int) (by decide) (by decide)))
  have f216 : Fld Z h5 o0_ cn1 "queries" "I" (.int (0 : Int32)) := f215.ext E5
  have f217 : Fld Z h15 o0_ cn1 "queries" "I" (.int (0 : Int32)) := f216.other W15 (Or.inr (slot_ne (Or.inl (own_w hw 59 rfl)) (Or.inr (own_w hw 15 rfl)) (by decide) (t := .int) (t' := (.array .double)) (by decide) (by decide)))
  have f218 : Fld Z h18 o0_ cn1 "queries" "I" (.int (0 : Int32)) := f217.ext E18
  have f219 : Fld Z h32 o0_ cn1 "queries" "I" (.int (0 : Int32)) := f218.other W32 (Or.inr (slot_ne (Or.inl (own_w hw 59 rfl)) (Or.inr (own_w hw 17 rfl)) (by decide) (t := .int) (t' := (.array .double)) (by decide) (by decide)))
  have f220 : Fld Z h35 o0_ cn1 "queries" "I" (.int (0 : Int32)) := f219.ext E35
  have f221 : Fld Z h51 o0_ cn1 "queries" "I" (.int (0 : Int32)) := f220.other W51 (Or.inr (slot_ne (Or.inl (own_w hw 59 rfl)) (Or.inr (own_w hw 19 rfl)) (by decide) (t := .int) (t' := (.array .double)) (by decide) (by decide)))
  have f222 : Fld Z h54 o0_ cn1 "queries" "I" (.int (0 : Int32)) := f221.ext E54
  have f223 : Fld Z h72 o0_ cn1 "queries" "I" (.int (0 : Int32)) := f222.other W72 (Or.inr (slot_ne (Or.inl (own_w hw 59 rfl)) (Or.inr (own_w hw 21 rfl)) (by decide) (t := .int) (t' := (.array .double)) (by decide) (by decide)))
  have f224 : Fld Z h75 o0_ cn1 "queries" "I" (.int (0 : Int32)) := f223.ext E75
  have f225 : Fld Z h95 o0_ cn1 "queries" "I" (.int (0 : Int32)) := f224.other W95 (Or.inr (slot_ne (Or.inl (own_w hw 59 rfl)) (Or.inr (own_w hw 24 rfl)) (by decide) (t := .int) (t' := (.array .long)) (by decide) (by decide)))
  have f226 : Fld Z h98 o0_ cn1 "queries" "I" (.int (0 : Int32)) := f225.ext E98
  have f227 : Fld Z h120 o0_ cn1 "queries" "I" (.int (0 : Int32)) := f226.other W120 (Or.inr (slot_ne (Or.inl (own_w hw 59 rfl)) (Or.inr (own_w hw 26 rfl)) (by decide) (t := .int) (t' := (.array .long)) (by decide) (by decide)))
  have f228 : Fld Z h2 o0_ cn1 "relevant" "J" (.long (0 : Int64)) := P9.other W2 (Or.inr (slot_ne (Or.inl (own_w hw 61 rfl)) (Or.inr (own_w hw 12 rfl)) (by decide) (t := .long) (t' := .int) (by decide) (by decide)))
  have f229 : Fld Z h5 o0_ cn1 "relevant" "J" (.long (0 : Int64)) := f228.ext E5
  have f230 : Fld Z h15 o0_ cn1 "relevant" "J" (.long (0 : Int64)) := f229.other W15 (Or.inr (slot_ne (Or.inl (own_w hw 61 rfl)) (Or.inr (own_w hw 15 rfl)) (by decide) (t := .long) (t' := (.array .double)) (by decide) (by decide)))
  have f231 : Fld Z h18 o0_ cn1 "relevant" "J" (.long (0 : Int64)) := f230.ext E18
  have f232 : Fld Z h32 o0_ cn1 "relevant" "J" (.long (0 : Int64)) := f231.other W32 (Or.inr (slot_ne (Or.inl (own_w hw 61 rfl)) (Or.inr (own_w hw 17 rfl)) (by decide) (t := .long) (t' := (.array .double)) (by decide) (by decide)))
  have f233 : Fld Z h35 o0_ cn1 "relevant" "J" (.long (0 : Int64)) := f232.ext E35
  have f234 : Fld Z h51 o0_ cn1 "relevant" "J" (.long (0 : Int64)) := f233.other W51 (Or.inr (slot_ne (Or.inl (own_w hw 61 rfl)) (Or.inr (own_w hw 19 rfl)) (by decide) (t := .long) (t' := (.array .double)) (by decide) (by decide)))
  have f235 : Fld Z h54 o0_ cn1 "relevant" "J" (.long (0 : Int64)) := f234.ext E54
  have f236 : Fld Z h72 o0_ cn1 "relevant" "J" (.long (0 : Int64)) := f235.other W72 (Or.inr (slot_ne (Or.inl (own_w hw 61 rfl)) (Or.inr (own_w hw 21 rfl)) (by decide) (t := .long) (t' := (.array .double)) (by decide) (by decide)))
  have f237 : Fld Z h75 o0_ cn1 "relevant" "J" (.long (0 : Int64)) := f236.ext E75
  have f238 : Fld Z h95 o0_ cn1 "relevant" "J" (.long (0 : Int64)) := f237.other W95 (Or.inr (slot_ne (Or.inl (own_w hw 61 rfl)) (Or.inr (own_w hw 24 rfl)) (by decide) (t := .long) (t' := (.array .long)) (by decide) (by decide)))
  have f239 : Fld Z h98 o0_ cn1 "relevant" "J" (.long (0 : Int64)) := f238.ext E98
  have f240 : Fld Z h120 o0_ cn1 "relevant" "J" (.long (0 : Int64)) := f239.other W120 (Or.inr (slot_ne (Or.inl (own_w hw 61 rfl)) (Or.inr (own_w hw 26 rfl)) (by decide) (t := .long) (t' := (.array .long)) (by decide) (by decide)))
  have f241 : Arv Z h98 b5 k5 .double (2 : Int32) [(.double (0 : UInt64)), (.double (0 : UInt64))] (.double (0 : UInt64)) := f140.ext E98
  have f242 : Arv Z h120 b5 k5 .double (2 : Int32) [(.double (0 : UInt64)), (.double (0 : UInt64))] (.double (0 : UInt64)) := f241.other W120 (Ne.symm ne128)
  have f243 : Exa Z h15 b5 "[D" := Z5.wr W15
  have f244 : Exa Z h18 b5 "[D" := f243.ext E18
  have f245 : Exa Z h32 b5 "[D" := f244.wr W32
  have f246 : Exa Z h35 b5 "[D" := f245.ext E35
  have f247 : Exa Z h51 b5 "[D" := f246.wr W51
  have f248 : Exa Z h54 b5 "[D" := f247.ext E54
  have f249 : Exa Z h72 b5 "[D" := f248.wr W72
  have f250 : Exa Z h75 b5 "[D" := f249.ext E75
  have f251 : Exa Z h95 b5 "[D" := f250.wr W95
  have f252 : Exa Z h98 b5 "[D" := f251.ext E98
  have f253 : Exa Z h120 b5 "[D" := f252.wr W120
  have f254 : Arv Z h98 b18 k18 .double (2 : Int32) [(.double (0 : UInt64)), (.double (0 : UInt64))] (.double (0 : UInt64)) := f152.ext E98
  have f255 : Arv Z h120 b18 k18 .double (2 : Int32) [(.double (0 : UInt64)), (.double (0 : UInt64))] (.double (0 : UInt64)) := f254.other W120 (Ne.symm ne143)
  have f256 : Exa Z h32 b18 "[D" := Z18.wr W32
  have f257 : Exa Z h35 b18 "[D" := f256.ext E35
  have f258 : Exa Z h51 b18 "[D" := f257.wr W51
  have f259 : Exa Z h54 b18 "[D" := f258.ext E54
  have f260 : Exa Z h72 b18 "[D" := f259.wr W72
  have f261 : Exa Z h75 b18 "[D" := f260.ext E75
  have f262 : Exa Z h95 b18 "[D" := f261.wr W95
  have f263 : Exa Z h98 b18 "[D" := f262.ext E98
  have f264 : Exa Z h120 b18 "[D" := f263.wr W120
  have f265 : Arv Z h98 b35 k35 .double (2 : Int32) [(.double (0 : UInt64)), (.double (0 : UInt64))] (.double (0 : UInt64)) := f161.ext E98
  have f266 : Arv Z h120 b35 k35 .double (2 : Int32) [(.double (0 : UInt64)), (.double (0 : UInt64))] (.double (0 : UInt64)) := f265.other W120 (Ne.symm ne155)
  have f267 : Exa Z h51 b35 "[D" := Z35.wr W51
  have f268 : Exa Z h54 b35 "[D" := f267.ext E54
  have f269 : Exa Z h72 b35 "[D" := f268.wr W72
  have f270 : Exa Z h75 b35 "[D" := f269.ext E75
  have f271 : Exa Z h95 b35 "[D" := f270.wr W95
  have f272 : Exa Z h98 b35 "[D" := f271.ext E98
  have f273 : Exa Z h120 b35 "[D" := f272.wr W120
  have f274 : Arv Z h98 b54 k54 .double (2 : Int32) [(.double (0 : UInt64)), (.double (0 : UInt64))] (.double (0 : UInt64)) := f167.ext E98
  have f275 : Arv Z h120 b54 k54 .double (2 : Int32) [(.double (0 : UInt64)), (.double (0 : UInt64))] (.double (0 : UInt64)) := f274.other W120 (Ne.symm ne164)
  have f276 : Exa Z h72 b54 "[D" := Z54.wr W72
  have f277 : Exa Z h75 b54 "[D" := f276.ext E75
  have f278 : Exa Z h95 b54 "[D" := f277.wr W95
  have f279 : Exa Z h98 b54 "[D" := f278.ext E98
  have f280 : Exa Z h120 b54 "[D" := f279.wr W120
  have f281 : Arv Z h98 b75 k75 .long (2 : Int32) [(.long (0 : Int64)), (.long (0 : Int64))] (.long (0 : Int64)) := f169.ext E98
  have f282 : Arv Z h120 b75 k75 .long (2 : Int32) [(.long (0 : Int64)), (.long (0 : Int64))] (.long (0 : Int64)) := f281.other W120 (Ne.symm ne170)
  have f283 : Exa Z h95 b75 "[J" := Z75.wr W95
  have f284 : Exa Z h98 b75 "[J" := f283.ext E98
  have f285 : Exa Z h120 b75 "[J" := f284.wr W120
  have ne287 : o0_ ≠ b98 := Nat.ne_of_lt (Nat.lt_of_lt_of_le f118.lt (Nat.le_of_eq g98.symm))
  have f286 : Arv Z h120 b98 k98 .long (2 : Int32) [(.long (0 : Int64)), (.long (0 : Int64))] (.long (0 : Int64)) := f105.other W120 (Ne.symm ne287)
  have f288 : Exa Z h120 b98 "[J" := Z98.wr W120
  obtain ⟨fs, hr, hrun, hended, hW, hsame⟩ := X120.leave (v := none) (fun _ => rfl)
  refine ⟨_, _, hG _ (pre123 _ (X120.returnOut hx Bd.returns (hb hby d29_51) hr)), hrun, hended, _, _, rfl, ?_, ⟨_, rfl⟩, hW, hsame.mono (by decide) (by decide)⟩
  show Qinit24 Z o0_ h0 n0 _ T120.heap _
  rw [e120]
  exact ⟨k5, k18, k35, k54, k75, k98, b5, b18, b35, b54, b75, b98, rfl, N121, f126, sz9, sz24, sz41, sz60, sz81, sz104, ne129, ne132, ne135, ne138, ne141, ne144, ne147, ne150, ne153, ne156, ne159, ne162, ne165, ne168, ne171, f172, f184, f194, f202, f208, f212, f214, f122, f227, f240, f242, f253, f255, f264, f266, f273, f275, f280, f282, f285, f286, f288⟩
theorem pd_14 : parseMethodDescriptor "(I)V" = some ⟨[.int], none⟩ := by decide +kernel
theorem pd_15 : parseMethodDescriptor "([I[I)V" = some ⟨[(.array .int), (.array .int)], none⟩ := by decide +kernel
theorem pd_16 : parseMethodDescriptor "()Ljava/util/List;" = some ⟨[], some (.object "java/util/List")⟩ := by decide +kernel
theorem pd_17 : parseMethodDescriptor "()I" = some ⟨[], some .int⟩ := by decide +kernel
theorem pd_18 : parseMethodDescriptor "()D" = some ⟨[], some .double⟩ := by decide +kernel
theorem pn_10 : plainName "com/example/shortlist/shortlist/SelectionMeasuresAddPinLaw" = true := by first | (simp [plainName, overriddenIn]; done) | decide +kernel
theorem efLaw (m : MethodId) (p0_ : Int32) (p1_ : Int32) (p2_ : Int32) (p3_ : Int32) (p4_ : Int32) : entryFrame m #[(.int p0_), (.int p1_), (.int p2_), (.int p3_), (.int p4_)] maxLocals = mkF m 0 #[lvI p0_, lvI p1_, lvI p2_, lvI p3_, lvI p4_, .unset, .unset, .unset, .unset, .unset, .unset, .unset, .unset, .unset, .unset, .unset, .unset, .unset, .unset, .unset, .unset, .unset, .unset, .unset, .unset, .unset, .unset, .unset, .unset, .unset, .unset, .unset, .unset, .unset, .unset, .unset, .unset, .unset, .unset] [] := by first | (simp [entryFrame, mkF, argsToLocals, Value.category, maxLocals]; done) | rfl
def QLaw (Z : State) (p0_ : Int32) (p1_ : Int32) (p2_ : Int32) (p3_ : Int32) (p4_ : Int32) (w_DEFAULTCAPACITY_EMPTY_ELEMENTDATA : Addr) (w_EMPTY_ELEMENTDATA : Addr) (k_w_EMPTY_ELEMENTDATA : ClassId) (k_w_DEFAULTCAPACITY_EMPTY_ELEMENTDATA : ClassId) (h0 : Heap) (n0 : Nat) (v : Option Value) (h : Heap) (L : List Loc) : Prop := v = some (.int (1 : Int32)) ∧ Fr n0 L
set_option maxRecDepth 65536 in
set_option maxHeartbeats 40000000 in
theorem rmLaw (l : Launch) (Z : State) (a0 : Array Value) (hw : ∀ d ∈ tables_1, d.before a0 Z = true) (ws : List Jvm.Cond) (p0_ : Int32) (p1_ : Int32) (p2_ : Int32) (p3_ : Int32) (p4_ : Int32) (w_DEFAULTCAPACITY_EMPTY_ELEMENTDATA : Addr) (w_EMPTY_ELEMENTDATA : Addr) (k_w_EMPTY_ELEMENTDATA : ClassId) (k_w_DEFAULTCAPACITY_EMPTY_ELEMENTDATA : ClassId) (h0 : Heap) (n0 : Nat) (O0 : Old Z n0 h0) (P0 : Sta Z Z.heap "java/util/ArrayList" "EMPTY_ELEMENTDATA" "[Ljava/lang/Object;" (.ref w_EMPTY_ELEMENTDATA)) (P1 : Exa Z Z.heap w_EMPTY_ELEMENTDATA "[Ljava/lang/Object;") (P2 : Sta Z Z.heap "java/util/ArrayList" "DEFAULTCAPACITY_EMPTY_ELEMENTDATA" "[Ljava/lang/Object;" (.ref w_DEFAULTCAPACITY_EMPTY_ELEMENTDATA)) (P3 : Exa Z Z.heap w_DEFAULTCAPACITY_EMPTY_ELEMENTDATA "[Ljava/lang/Object;") (P4 : Arv Z Z.heap w_EMPTY_ELEMENTDATA k_w_EMPTY_ELEMENTDATA (.object "java/lang/Object") (0 : Int32) [] .null) (P5 : Arv Z Z.heap w_DEFAULTCAPACITY_EMPTY_ELEMENTDATA k_w_DEFAULTCAPACITY_EMPTY_ELEMENTDATA (.object "java/lang/Object") (0 : Int32) [] .null) :
    MetFree l x (head1 (Jvm.Cond.code x code maxLocals ret :: ws) room_1) (fun a U => a = #[(.int p0_), (.int p1_), (.int p2_), (.int p3_), (.int p4_)] ∧ Z.Warmed39 U.vm ∧ U.heap = h0) (fun _ _ _ _ _ => True) (fun _ U o U' => ∃ v L, o = .returned v ∧ QLaw Z p0_ p1_ p2_ p3_ p4_ w_DEFAULTCAPACITY_EMPTY_ELEMENTDATA w_EMPTY_ELEMENTDATA k_w_EMPTY_ELEMENTDATA k_w_DEFAULTCAPACITY_EMPTY_ELEMENTDATA h0 n0 v U'.heap L ∧ FrameEnd U o U' L room_1.cells room_1.slots) := by
  refine MetFree.of_bodySF (plainFor_of_name pn_10) hisR ?_
  intro p e s m args below meth c s₁ Bd hml0 hP hK
  obtain ⟨rfl, hZ, hh⟩ := hP
  have hx := Bd.exec
  have hby := Bd.bytes
  have hml : c.maxLocals = 39 := hml0
  have hown : s.vm.findClass "com/example/shortlist/shortlist/SelectionMeasuresAddPinLaw" = some m.cls := findClass_of_methodNamed Bd.named
  have hnm := (name_of_methodNamed Bd.named Bd.method).1
  have X0 : Stand p l e room_1 s m #[(.int p0_), (.int p1_), (.int p2_), (.int p3_), (.int p4_)] below meth c s₁ [] 0 0 := Stand.of_body Bd
  have e0 : s₁.heap = h0 := by rw [← hh, Bd.state]; rfl
  have N0 := Fr.nil n0
  obtain ⟨G, pre0, hG⟩ : ∃ G : State → Prop, (∀ t, own_S p e below m s₁ 0 #[lvI p0_, lvI p1_, lvI p2_, lvI p3_, lvI p4_, .unset, .unset, .unset, .unset, .unset, .unset, .unset, .unset, .unset, .unset, .unset, .unset, .unset, .unset, .unset, .unset, .unset, .unset, .unset, .unset, .unset, .unset, .unset, .unset, .unset, .unset, .unset, .unset, .unset, .unset, .unset, .unset, .unset, .unset] [] t → G t) ∧ (∀ t, G t → Steps p.tables e below (s₁.setTop (entryFrame m #[(.int p0_), (.int p1_), (.int p2_), (.int p3_), (.int p4_)] maxLocals)) t) := ⟨fun t => Steps p.tables e below (s₁.setTop (entryFrame m #[(.int p0_), (.int p1_), (.int p2_), (.int p3_), (.int p4_)] maxLocals)) t, fun t k => castTop (efLaw m p0_ p1_ p2_ p3_ p4_) k, fun _ k => k⟩
  have K0 : Keep h0 h0 [] := Keep.refl _ _
  obtain ⟨i0_, hi_0⟩ : ∃ z, z = (p0_ &&& (2147483647 : Int32)) := ⟨_, rfl⟩
  have pre1 : ∀ t, own_S p e below m s₁ 24 #[lvI p0_, lvI p1_, lvI p2_, lvI p3_, lvI p4_, lvI (p0_ &&& (2147483647 : Int32)), lvI (p1_ &&& (2147483647 : Int32)), lvI (p2_ &&& (2147483647 : Int32)), lvI (p3_ &&& (2147483647 : Int32)), .unset, .unset, .unset, .unset, .unset, .unset, .unset, .unset, .unset, .unset, .unset, .unset, .unset, .unset, .unset, .unset, .unset, .unset, .unset, .unset, .unset, .unset, .unset, .unset, .unset, .unset, .unset, .unset, .unset, .unset] [] t → G t := by
    intro t kt
    refine pre0 t ?_
    show own_S p e below m s₁ 0 #[lvI p0_, lvI p1_, lvI p2_, lvI p3_, lvI p4_, .unset, .unset, .unset, .unset, .unset, .unset, .unset, .unset, .unset, .unset, .unset, .unset, .unset, .unset, .unset, .unset, .unset, .unset, .unset, .unset, .unset, .unset, .unset, .unset, .unset, .unset, .unset, .unset, .unset, .unset, .unset, .unset, .unset, .unset] [] _
    refine XS.iloadN X0.here hx rfl (hb hby at_0) rfl ?_
    show own_S p e below m s₁ 1 #[lvI p0_, lvI p1_, lvI p2_, lvI p3_, lvI p4_, .unset, .unset, .unset, .unset, .unset, .unset, .unset, .unset, .unset, .unset, .unset, .unset, .unset, .unset, .unset, .unset, .unset, .unset, .unset, .unset, .unset, .unset, .unset, .unset, .unset, .unset, .unset, .unset, .unset, .unset, .unset, .unset, .unset, .unset] [(.int p0_)] _
    refine X0.ldcInt hx hown (mvT hZ (own_w hw 0 rfl)) (g := (mkF m 1 #[lvI p0_, lvI p1_, lvI p2_, lvI p3_, lvI p4_, .unset, .unset, .unset, .unset, .unset, .unset, .unset, .unset, .unset, .unset, .unset, .unset, .unset, .unset, .unset, .unset, .unset, .unset, .unset, .unset, .unset, .unset, .unset, .unset, .unset, .unset, .unset, .unset, .unset, .unset, .unset, .unset, .unset, .unset] [(.int p0_)])) rfl (hb hby at_1) _ ?_
    refine XS.iand X0.here hx rfl (hb hby at_3) rfl ?_
    refine XS.istore X0.here hx rfl (hb hby at_4) rfl (l' := #[lvI p0_, lvI p1_, lvI p2_, lvI p3_, lvI p4_, lvI (p0_ &&& (2147483647 : Int32)), .unset, .unset, .unset, .unset, .unset, .unset, .unset, .unset, .unset, .unset, .unset, .unset, .unset, .unset, .unset, .unset, .unset, .unset, .unset, .unset, .unset, .unset, .unset, .unset, .unset, .unset, .unset, .unset, .unset, .unset, .unset, .unset, .unset]) rfl ?_
    refine XS.iloadN X0.here hx rfl (hb hby at_6) rfl ?_
    show own_S p e below m s₁ 7 #[lvI p0_, lvI p1_, lvI p2_, lvI p3_, lvI p4_, lvI (p0_ &&& (2147483647 : Int32)), .unset, .unset, .unset, .unset, .unset, .unset, .unset, .unset, .unset, .unset, .unset, .unset, .unset, .unset, .unset, .unset, .unset, .unset, .unset, .unset, .unset, .unset, .unset, .unset, .unset, .unset, .unset, .unset, .unset, .unset, .unset, .unset, .unset] [(.int p1_)] _
    refine X0.ldcInt hx hown (mvT hZ (own_w hw 0 rfl)) (g := (mkF m 7 #[lvI p0_, lvI p1_, lvI p2_, lvI p3_, lvI p4_, lvI (p0_ &&& (2147483647 : Int32)), .unset, .unset, .unset, .unset, .unset, .unset, .unset, .unset, .unset, .unset, .unset, .unset, .unset, .unset, .unset, .unset, .unset, .unset, .unset, .unset, .unset, .unset, .unset, .unset, .unset, .unset, .unset, .unset, .unset, .unset, .unset, .unset, .unset] [(.int p1_)])) rfl (hb hby at_7) _ ?_
    refine XS.iand X0.here hx rfl (hb hby at_9) rfl ?_
    refine XS.istore X0.here hx rfl (hb hby at_10) rfl (l' := #[lvI p0_, lvI p1_, lvI p2_, lvI p3_, lvI p4_, lvI (p0_ &&& (2147483647 : Int32)), lvI (p1_ &&& (2147483647 : Int32)), .unset, .unset, .unset, .unset, .unset, .unset, .unset, .unset, .unset, .unset, .unset, .unset, .unset, .unset, .unset, .unset, .unset, .unset, .unset, .unset, .unset, .unset, .unset, .unset, .unset, .unset, .unset, .unset, .unset, .unset, .unset, .unset]) rfl ?_
    refine XS.iloadN X0.here hx rfl (hb hby at_12) rfl ?_
    show own_S p e below m s₁ 13 #[lvI p0_, lvI p1_, lvI p2_, lvI p3_, lvI p4_, lvI (p0_ &&& (2147483647 : Int32)), lvI (p1_ &&& (2147483647 : Int32)), .unset, .unset, .unset, .unset, .unset, .unset, .unset, .unset, .unset, .unset, .unset, .unset, .unset, .unset, .unset, .unset, .unset, .unset, .unset, .unset, .unset, .unset, .unset, .unset, .unset, .unset, .unset, .unset, .unset, .unset, .unset, .unset] [(.int p2_)] _
    refine X0.ldcInt hx hown (mvT hZ (own_w hw 0 rfl)) (g := (mkF m 13 #[lvI p0_, lvI p1_, lvI p2_, lvI p3_, lvI p4_, lvI (p0_ &&& (2147483647 : Int32)), lvI (p1_ &&& (2147483647 : Int32)), .unset, .unset, .unset, .unset, .unset, .unset, .unset, .unset, .unset, .unset, .unset, .unset, .unset, .unset, .unset, .unset, .unset, .unset, .unset, .unset, .unset, .unset, .unset, .unset, .unset, .unset, .unset, .unset, .unset, .unset, .unset, .unset] [(.int p2_)])) rfl (hb hby at_13) _ ?_
    refine XS.iand X0.here hx rfl (hb hby at_15) rfl ?_
    refine XS.istore X0.here hx rfl (hb hby at_16) rfl (l' := #[lvI p0_, lvI p1_, lvI p2_, lvI p3_, lvI p4_, lvI (p0_ &&& (2147483647 : Int32)), lvI (p1_ &&& (2147483647 : Int32)), lvI (p2_ &&& (2147483647 : Int32)), .unset, .unset, .unset, .unset, .unset, .unset, .unset, .unset, .unset, .unset, .unset, .unset, .unset, .unset, .unset, .unset, .unset, .unset, .unset, .unset, .unset, .unset, .unset, .unset, .unset, .unset, .unset, .unset, .unset, .unset, .unset]) rfl ?_
    refine XS.iloadN X0.here hx rfl (hb hby at_18) rfl ?_
    show own_S p e below m s₁ 19 #[lvI p0_, lvI p1_, lvI p2_, lvI p3_, lvI p4_, lvI (p0_ &&& (2147483647 : Int32)), lvI (p1_ &&& (2147483647 : Int32)), lvI (p2_ &&& (2147483647 : Int32)), .unset, .unset, .unset, .unset, .unset, .unset, .unset, .unset, .unset, .unset, .unset, .unset, .unset, .unset, .unset, .unset, .unset, .unset, .unset, .unset, .unset, .unset, .unset, .unset, .unset, .unset, .unset, .unset, .unset, .unset, .unset] [(.int p3_)] _
    refine X0.ldcInt hx hown (mvT hZ (own_w hw 0 rfl)) (g := (mkF m 19 #[lvI p0_, lvI p1_, lvI p2_, lvI p3_, lvI p4_, lvI (p0_ &&& (2147483647 : Int32)), lvI (p1_ &&& (2147483647 : Int32)), lvI (p2_ &&& (2147483647 : Int32)), .unset, .unset, .unset, .unset, .unset, .unset, .unset, .unset, .unset, .unset, .unset, .unset, .unset, .unset, .unset, .unset, .unset, .unset, .unset, .unset, .unset, .unset, .unset, .unset, .unset, .unset, .unset, .unset, .unset, .unset, .unset] [(.int p3_)])) rfl (hb hby at_19) _ ?_
    refine XS.iand X0.here hx rfl (hb hby at_21) rfl ?_
    refine XS.istore X0.here hx rfl (hb hby at_22) rfl (l' := #[lvI p0_, lvI p1_, lvI p2_, lvI p3_, lvI p4_, lvI (p0_ &&& (2147483647 : Int32)), lvI (p1_ &&& (2147483647 : Int32)), lvI (p2_ &&& (2147483647 : Int32)), lvI (p3_ &&& (2147483647 : Int32)), .unset, .unset, .unset, .unset, .unset, .unset, .unset, .unset, .unset, .unset, .unset, .unset, .unset, .unset, .unset, .unset, .unset, .unset, .unset, .unset, .unset, .unset, .unset, .unset, .unset, .unset, .unset, .unset, .unset, .unset]) rfl ?_
    exact kt
  have pre2 : ∀ t, own_S p e below m s₁ 24 #[lvI p0_, lvI p1_, lvI p2_, lvI p3_, lvI p4_, lvI i0_, lvI (p1_ &&& (2147483647 : Int32)), lvI (p2_ &&& (2147483647 : Int32)), lvI (p3_ &&& (2147483647 : Int32)), .unset, .unset, .unset, .unset, .unset, .unset, .unset, .unset, .unset, .unset, .unset, .unset, .unset, .unset, .unset, .unset, .unset, .unset, .unset, .unset, .unset, .unset, .unset, .unset, .unset, .unset, .unset, .unset, .unset, .unset] [] t → G t := fun t kt => pre1 t (by rw [← hi_0]; exact kt)
  have hn3 : ¬ (i0_ < (0 : Int32)) := own_nn0 hi_0
  obtain ⟨i1_, hi_1⟩ : ∃ z, z = (p1_ &&& (2147483647 : Int32)) := ⟨_, rfl⟩
  have pre4 : ∀ t, own_S p e below m s₁ 24 #[lvI p0_, lvI p1_, lvI p2_, lvI p3_, lvI p4_, lvI i0_, lvI i1_, lvI (p2_ &&& (2147483647 : Int32)), lvI (p3_ &&& (2147483647 : Int32)), .unset, .unset, .unset, .unset, .unset, .unset, .unset, .unset, .unset, .unset, .unset, .unset, .unset, .unset, .unset, .unset, .unset, .unset, .unset, .unset, .unset, .unset, .unset, .unset, .unset, .unset, .unset, .unset, .unset, .unset] [] t → G t := fun t kt => pre2 t (by rw [← hi_1]; exact kt)
  have hn5 : ¬ (i1_ < (0 : Int32)) := own_nn0 hi_1
  obtain ⟨i2_, hi_2⟩ : ∃ z, z = (p2_ &&& (2147483647 : Int32)) := ⟨_, rfl⟩
  have pre6 : ∀ t, own_S p e below m s₁ 24 #[lvI p0_, lvI p1_, lvI p2_, lvI p3_, lvI p4_, lvI i0_, lvI i1_, lvI i2_, lvI (p3_ &&& (2147483647 : Int32)), .unset, .unset, .unset, .unset, .unset, .unset, .unset, .unset, .unset, .unset, .unset, .unset, .unset, .unset, .unset, .unset, .unset, .unset, .unset, .unset, .unset, .unset, .unset, .unset, .unset, .unset, .unset, .unset, .unset, .unset] [] t → G t := fun t kt => pre4 t (by rw [← hi_2]; exact kt)
  have hn7 : ¬ (i2_ < (0 : Int32)) := own_nn0 hi_2
  obtain ⟨i3_, hi_3⟩ : ∃ z, z = (p3_ &&& (2147483647 : Int32)) := ⟨_, rfl⟩
  have pre8 : ∀ t, own_S p e below m s₁ 24 #[lvI p0_, lvI p1_, lvI p2_, lvI p3_, lvI p4_, lvI i0_, lvI i1_, lvI i2_, lvI i3_, .unset, .unset, .unset, .unset, .unset, .unset, .unset, .unset, .unset, .unset, .unset, .unset, .unset, .unset, .unset, .unset, .unset, .unset, .unset, .unset, .unset, .unset, .unset, .unset, .unset, .unset, .unset, .unset, .unset, .unset] [] t → G t := fun t kt => pre6 t (by rw [← hi_3]; exact kt)
  have hn9 : ¬ (i3_ < (0 : Int32)) := own_nn0 hi_3
  have pre10 : ∀ t, own_S p e below m s₁ 46 #[lvI p0_, lvI p1_, lvI p2_, lvI p3_, lvI p4_, lvI i0_, lvI i1_, lvI i2_, lvI i3_, lvJ ((i0_.toInt64) + (i1_.toInt64)), .second, lvJ ((i2_.toInt64) + (i3_.toInt64)), .second, .unset, .unset, .unset, .unset, .unset, .unset, .unset, .unset, .unset, .unset, .unset, .unset, .unset, .unset, .unset, .unset, .unset, .unset, .unset, .unset, .unset, .unset, .unset, .unset, .unset, .unset] [(.int (lcmpW ((i0_.toInt64) + (i1_.toInt64)) (0 : Int64)))] t → G t := by
    intro t kt
    refine pre8 t ?_
    show own_S p e below m s₁ 24 #[lvI p0_, lvI p1_, lvI p2_, lvI p3_, lvI p4_, lvI i0_, lvI i1_, lvI i2_, lvI i3_, .unset, .unset, .unset, .unset, .unset, .unset, .unset, .unset, .unset, .unset, .unset, .unset, .unset, .unset, .unset, .unset, .unset, .unset, .unset, .unset, .unset, .unset, .unset, .unset, .unset, .unset, .unset, .unset, .unset, .unset] [] _
    refine XS.iload X0.here hx rfl (hb hby at_24) rfl ?_
    refine XS.i2l X0.here hx rfl (hb hby at_26) rfl ?_
    refine XS.iload X0.here hx rfl (hb hby at_27) rfl ?_
    refine XS.i2l X0.here hx rfl (hb hby at_29) rfl ?_
    refine XS.ladd X0.here hx rfl (hb hby at_30) rfl ?_
    refine XS.lstore X0.here hx rfl (hb hby at_31) rfl (l' := #[lvI p0_, lvI p1_, lvI p2_, lvI p3_, lvI p4_, lvI i0_, lvI i1_, lvI i2_, lvI i3_, lvJ ((i0_.toInt64) + (i1_.toInt64)), .second, .unset, .unset, .unset, .unset, .unset, .unset, .unset, .unset, .unset, .unset, .unset, .unset, .unset, .unset, .unset, .unset, .unset, .unset, .unset, .unset, .unset, .unset, .unset, .unset, .unset, .unset, .unset, .unset]) rfl ?_
    refine XS.iload X0.here hx rfl (hb hby at_33) rfl ?_
    refine XS.i2l X0.here hx rfl (hb hby at_35) rfl ?_
    show own_S p e below m s₁ 36 #[lvI p0_, lvI p1_, lvI p2_, lvI p3_, lvI p4_, lvI i0_, lvI i1_, lvI i2_, lvI i3_, lvJ ((i0_.toInt64) + (i1_.toInt64)), .second, .unset, .unset, .unset, .unset, .unset, .unset, .unset, .unset, .unset, .unset, .unset, .unset, .unset, .unset, .unset, .unset, .unset, .unset, .unset, .unset, .unset, .unset, .unset, .unset, .unset, .unset, .unset, .unset] [(.long (i2_.toInt64))] _
    refine XS.iload X0.here hx rfl (hb hby at_36) rfl ?_
    refine XS.i2l X0.here hx rfl (hb hby at_38) rfl ?_
    refine XS.ladd X0.here hx rfl (hb hby at_39) rfl ?_
    refine XS.lstore X0.here hx rfl (hb hby at_40) rfl (l' := #[lvI p0_, lvI p1_, lvI p2_, lvI p3_, lvI p4_, lvI i0_, lvI i1_, lvI i2_, lvI i3_, lvJ ((i0_.toInt64) + (i1_.toInt64)), .second, lvJ ((i2_.toInt64) + (i3_.toInt64)), .second, .unset, .unset, .unset, .unset, .unset, .unset, .unset, .unset, .unset, .unset, .unset, .unset, .unset, .unset, .unset, .unset, .unset, .unset, .unset, .unset, .unset, .unset, .unset, .unset, .unset, .unset]) rfl ?_
    refine XS.lload X0.here hx rfl (hb hby at_42) rfl ?_
    refine XS.lconst X0.here hx rfl (hb hby at_44) ?_
    refine XS.lcmp X0.here hx rfl (hb hby at_45) rfl ?_
    exact kt
  by_cases hc11 : ((i0_.toInt64) + (i1_.toInt64)) = (0 : Int64)
  · have pre12 : ∀ t, own_S p e below m s₁ 57 #[lvI p0_, lvI p1_, lvI p2_, lvI p3_, lvI p4_, lvI i0_, lvI i1_, lvI i2_, lvI i3_, lvJ ((i0_.toInt64) + (i1_.toInt64)), .second, lvJ ((i2_.toInt64) + (i3_.toInt64)), .second, .unset, .unset, .unset, .unset, .unset, .unset, .unset, .unset, .unset, .unset, .unset, .unset, .unset, .unset, .unset, .unset, .unset, .unset, .unset, .unset, .unset, .unset, .unset, .unset, .unset, .unset] [(.int (1 : Int32))] t → G t := by
      intro t kt
      refine pre10 t ?_
      show own_S p e below m s₁ 46 #[lvI p0_, lvI p1_, lvI p2_, lvI p3_, lvI p4_, lvI i0_, lvI i1_, lvI i2_, lvI i3_, lvJ ((i0_.toInt64) + (i1_.toInt64)), .second, lvJ ((i2_.toInt64) + (i3_.toInt64)), .second, .unset, .unset, .unset, .unset, .unset, .unset, .unset, .unset, .unset, .unset, .unset, .unset, .unset, .unset, .unset, .unset, .unset, .unset, .unset, .unset, .unset, .unset, .unset, .unset, .unset, .unset] [(.int (lcmpW ((i0_.toInt64) + (i1_.toInt64)) (0 : Int64)))] _
      refine XS.ifYes X0.here hx rfl (pc0 := 46) (pc' := 56) rfl (hb hby at_46) rfl ((if0 _ _).trans (teq ((lw_eq _ _).mpr hc11)).1) (by decide) (by decide) ?_
      refine XS.iconst X0.here hx rfl (hb hby at_56) ?_
      exact kt
    obtain ⟨fs, hr, hrun, hended, hW, hsame⟩ := X0.leave (v := some (.int (1 : Int32))) (fun h => by rw [Bd.returns] at h; cases h)
    refine ⟨_, _, hG _ (pre12 _ (retN X0 hx (t := .boolean) Bd.returns (by simp) (hb hby at_57) hr)), hrun, hended, _, _, rfl, ?_, ⟨_, rfl⟩, hW, hsame.mono (by decide) (by decide)⟩
    show QLaw Z p0_ p1_ p2_ p3_ p4_ w_DEFAULTCAPACITY_EMPTY_ELEMENTDATA w_EMPTY_ELEMENTDATA k_w_EMPTY_ELEMENTDATA k_w_DEFAULTCAPACITY_EMPTY_ELEMENTDATA h0 n0 _ s₁.heap _
    rw [e0]
    exact ⟨rfl, N0⟩
  · have pre14 : ∀ t, own_S p e below m s₁ 53 #[lvI p0_, lvI p1_, lvI p2_, lvI p3_, lvI p4_, lvI i0_, lvI i1_, lvI i2_, lvI i3_, lvJ ((i0_.toInt64) + (i1_.toInt64)), .second, lvJ ((i2_.toInt64) + (i3_.toInt64)), .second, .unset, .unset, .unset, .unset, .unset, .unset, .unset, .unset, .unset, .unset, .unset, .unset, .unset, .unset, .unset, .unset, .unset, .unset, .unset, .unset, .unset, .unset, .unset, .unset, .unset, .unset] [(.int (lcmpW ((i2_.toInt64) + (i3_.toInt64)) (0 : Int64)))] t → G t := by
      intro t kt
      refine pre10 t ?_
      show own_S p e below m s₁ 46 #[lvI p0_, lvI p1_, lvI p2_, lvI p3_, lvI p4_, lvI i0_, lvI i1_, lvI i2_, lvI i3_, lvJ ((i0_.toInt64) + (i1_.toInt64)), .second, lvJ ((i2_.toInt64) + (i3_.toInt64)), .second, .unset, .unset, .unset, .unset, .unset, .unset, .unset, .unset, .unset, .unset, .unset, .unset, .unset, .unset, .unset, .unset, .unset, .unset, .unset, .unset, .unset, .unset, .unset, .unset, .unset, .unset] [(.int (lcmpW ((i0_.toInt64) + (i1_.toInt64)) (0 : Int64)))] _
      refine XS.ifNo X0.here hx rfl (hb hby at_46) rfl ((if0 _ _).trans (feq (fun z => hc11 ((lw_eq _ _).mp z))).1) ?_
      refine XS.lload X0.here hx rfl (hb hby at_49) rfl ?_
      refine XS.lconst X0.here hx rfl (hb hby at_51) ?_
      refine XS.lcmp X0.here hx rfl (hb hby at_52) rfl ?_
      exact kt
    by_cases hc15 : ((i2_.toInt64) + (i3_.toInt64)) = (0 : Int64)
    · have pre16 : ∀ t, own_S p e below m s₁ 57 #[lvI p0_, lvI p1_, lvI p2_, lvI p3_, lvI p4_, lvI i0_, lvI i1_, lvI i2_, lvI i3_, lvJ ((i0_.toInt64) + (i1_.toInt64)), .second, lvJ ((i2_.toInt64) + (i3_.toInt64)), .second, .unset, .unset, .unset, .unset, .unset, .unset, .unset, .unset, .unset, .unset, .unset, .unset, .unset, .unset, .unset, .unset, .unset, .unset, .unset, .unset, .unset, .unset, .unset, .unset, .unset, .unset] [(.int (1 : Int32))] t → G t := by
        intro t kt
        refine pre14 t ?_
        show own_S p e below m s₁ 53 #[lvI p0_, lvI p1_, lvI p2_, lvI p3_, lvI p4_, lvI i0_, lvI i1_, lvI i2_, lvI i3_, lvJ ((i0_.toInt64) + (i1_.toInt64)), .second, lvJ ((i2_.toInt64) + (i3_.toInt64)), .second, .unset, .unset, .unset, .unset, .unset, .unset, .unset, .unset, .unset, .unset, .unset, .unset, .unset, .unset, .unset, .unset, .unset, .unset, .unset, .unset, .unset, .unset, .unset, .unset, .unset, .unset] [(.int (lcmpW ((i2_.toInt64) + (i3_.toInt64)) (0 : Int64)))] _
        refine XS.ifNo X0.here hx rfl (hb hby at_53) rfl ((if0 _ _).trans (teq ((lw_eq _ _).mpr hc15)).2) ?_
        refine XS.iconst X0.here hx rfl (hb hby at_56) ?_
        exact kt
      obtain ⟨fs, hr, hrun, hended, hW, hsame⟩ := X0.leave (v := some (.int (1 : Int32))) (fun h => by rw [Bd.returns] at h; cases h)
      refine ⟨_, _, hG _ (pre16 _ (retN X0 hx (t := .boolean) Bd.returns (by simp) (hb hby at_57) hr)), hrun, hended, _, _, rfl, ?_, ⟨_, rfl⟩, hW, hsame.mono (by decide) (by decide)⟩
      show QLaw Z p0_ p1_ p2_ p3_ p4_ w_DEFAULTCAPACITY_EMPTY_ELEMENTDATA w_EMPTY_ELEMENTDATA k_w_EMPTY_ELEMENTDATA k_w_DEFAULTCAPACITY_EMPTY_ELEMENTDATA h0 n0 _ s₁.heap _
      rw [e0]
      exact ⟨rfl, N0⟩
    · have pre18 : ∀ t, own_S p e below m s₁ 58 #[lvI p0_, lvI p1_, lvI p2_, lvI p3_, lvI p4_, lvI i0_, lvI i1_, lvI i2_, lvI i3_, lvJ ((i0_.toInt64) + (i1_.toInt64)), .second, lvJ ((i2_.toInt64) + (i3_.toInt64)), .second, .unset, .unset, .unset, .unset, .unset, .unset, .unset, .unset, .unset, .unset, .unset, .unset, .unset, .unset, .unset, .unset, .unset, .unset, .unset, .unset, .unset, .unset, .unset, .unset, .unset, .unset] [] t → G t := by
        intro t kt
        refine pre14 t ?_
        show own_S p e below m s₁ 53 #[lvI p0_, lvI p1_, lvI p2_, lvI p3_, lvI p4_, lvI i0_, lvI i1_, lvI i2_, lvI i3_, lvJ ((i0_.toInt64) + (i1_.toInt64)), .second, lvJ ((i2_.toInt64) + (i3_.toInt64)), .second, .unset, .unset, .unset, .unset, .unset, .unset, .unset, .unset, .unset, .unset, .unset, .unset, .unset, .unset, .unset, .unset, .unset, .unset, .unset, .unset, .unset, .unset, .unset, .unset, .unset, .unset] [(.int (lcmpW ((i2_.toInt64) + (i3_.toInt64)) (0 : Int64)))] _
        refine XS.ifYes X0.here hx rfl (pc0 := 53) (pc' := 58) rfl (hb hby at_53) rfl ((if0 _ _).trans (feq (fun z => hc15 ((lw_eq _ _).mp z))).2) (by decide) (by decide) ?_
        exact kt
      have HM : own_M i0_ i1_ i2_ i3_ := own_mk hi_0 hi_1 hi_2 hi_3 hc11 hc15
      have hn19 : ¬ ((((0 : Int64) + (i0_.toInt64)) + (i1_.toInt64)) = (0 : Int64)) := own_n0 HM
      have hn20 : ¬ ((((0 : Int64) + (i2_.toInt64)) + (i3_.toInt64)) = (0 : Int64)) := own_n1 HM
      obtain ⟨lo_, hi_, hS⟩ := own_srt_ex i0_ i1_
      obtain ⟨c0_, hp0⟩ := own_pos_ex i0_
      obtain ⟨c1_, hp1⟩ := own_pos_ex i1_
      obtain ⟨qr0, eqr0⟩ : ∃ z, (FP.ddiv (FP.l2d ((0 : Int64) + (i0_.toInt64))) (FP.l2d ((0 : Int64) + (hi_.toInt64)))) = z := ⟨_, rfl⟩
      obtain ⟨qr1, eqr1⟩ : ∃ z, (FP.ddiv (FP.l2d (((0 : Int64) + (i0_.toInt64)) + (i1_.toInt64))) (FP.l2d (((0 : Int64) + (hi_.toInt64)) + (lo_.toInt64)))) = z := ⟨_, rfl⟩
      obtain ⟨qh0, eqh0⟩ : ∃ z, (FP.ddiv (FP.l2d ((0 : Int64) + (i0_.toInt64))) (FP.l2d (((0 : Int64) + (i0_.toInt64)) + (i1_.toInt64)))) = z := ⟨_, rfl⟩
      obtain ⟨qh1, eqh1⟩ : ∃ z, (FP.ddiv (FP.l2d (((0 : Int64) + (i0_.toInt64)) + (i1_.toInt64))) (FP.l2d (((0 : Int64) + (i0_.toInt64)) + (i1_.toInt64)))) = z := ⟨_, rfl⟩
      obtain ⟨qp0, eqp0⟩ : ∃ z, (FP.ddiv (FP.i2d ((0 : Int32) + c0_)) (FP.i2d (1 : Int32))) = z := ⟨_, rfl⟩
      obtain ⟨qp1, eqp1⟩ : ∃ z, (FP.ddiv (FP.i2d (((0 : Int32) + c0_) + c1_)) (FP.i2d (2 : Int32))) = z := ⟨_, rfl⟩
      obtain ⟨qc0, eqc0⟩ : ∃ z, (FP.ddiv (FP.l2d ((0 : Int64) + (i2_.toInt64))) (FP.l2d (((0 : Int64) + (i2_.toInt64)) + (i3_.toInt64)))) = z := ⟨_, rfl⟩
      obtain ⟨qc1, eqc1⟩ : ∃ z, (FP.ddiv (FP.l2d (((0 : Int64) + (i2_.toInt64)) + (i3_.toInt64))) (FP.l2d (((0 : Int64) + (i2_.toInt64)) + (i3_.toInt64)))) = z := ⟨_, rfl⟩
      have pre21 : ∀ t, own_S p e below m s₁ 62 #[lvI p0_, lvI p1_, lvI p2_, lvI p3_, lvI p4_, lvI i0_, lvI i1_, lvI i2_, lvI i3_, lvJ ((i0_.toInt64) + (i1_.toInt64)), .second, lvJ ((i2_.toInt64) + (i3_.toInt64)), .second, .unset, .unset, .unset, .unset, .unset, .unset, .unset, .unset, .unset, .unset, .unset, .unset, .unset, .unset, .unset, .unset, .unset, .unset, .unset, .unset, .unset, .unset, .unset, .unset, .unset, .unset] [(.int (p4_ &&& (1 : Int32)))] t → G t := by
        intro t kt
        refine pre18 t ?_
        show own_S p e below m s₁ 58 #[lvI p0_, lvI p1_, lvI p2_, lvI p3_, lvI p4_, lvI i0_, lvI i1_, lvI i2_, lvI i3_, lvJ ((i0_.toInt64) + (i1_.toInt64)), .second, lvJ ((i2_.toInt64) + (i3_.toInt64)), .second, .unset, .unset, .unset, .unset, .unset, .unset, .unset, .unset, .unset, .unset, .unset, .unset, .unset, .unset, .unset, .unset, .unset, .unset, .unset, .unset, .unset, .unset, .unset, .unset, .unset, .unset] [] _
        refine XS.iload X0.here hx rfl (hb hby at_58) rfl ?_
        refine XS.iconst X0.here hx rfl (hb hby at_60) ?_
        refine XS.iand X0.here hx rfl (hb hby at_61) rfl ?_
        exact kt
      obtain ⟨zz_, kk_, hzk⟩ := own_zk_ex p4_
      have pre22 : ∀ t, own_S p e below m s₁ 86 #[lvI p0_, lvI p1_, lvI p2_, lvI p3_, lvI p4_, lvI i0_, lvI i1_, lvI i2_, lvI i3_, lvJ ((i0_.toInt64) + (i1_.toInt64)), .second, lvJ ((i2_.toInt64) + (i3_.toInt64)), .second, lvI zz_, lvJ kk_, .second, .unset, .unset, .unset, .unset, .unset, .unset, .unset, .unset, .unset, .unset, .unset, .unset, .unset, .unset, .unset, .unset, .unset, .unset, .unset, .unset, .unset, .unset, .unset] [] t → G t := by
        intro t kt
        rcases hzk with ⟨hj23_0, ej23_0, ej23_1⟩ | ⟨hj24_0, ej24_0, ej24_1⟩
        · have pre25 : ∀ t, own_S p e below m s₁ 86 #[lvI p0_, lvI p1_, lvI p2_, lvI p3_, lvI p4_, lvI i0_, lvI i1_, lvI i2_, lvI i3_, lvJ ((i0_.toInt64) + (i1_.toInt64)), .second, lvJ ((i2_.toInt64) + (i3_.toInt64)), .second, lvI (0 : Int32), lvJ (1 : Int64), .second, .unset, .unset, .unset, .unset, .unset, .unset, .unset, .unset, .unset, .unset, .unset, .unset, .unset, .unset, .unset, .unset, .unset, .unset, .unset, .unset, .unset, .unset, .unset] [] t → G t := by
            intro t kt
            refine pre21 t ?_
            show own_S p e below m s₁ 62 #[lvI p0_, lvI p1_, lvI p2_, lvI p3_, lvI p4_, lvI i0_, lvI i1_, lvI i2_, lvI i3_, lvJ ((i0_.toInt64) + (i1_.toInt64)), .second, lvJ ((i2_.toInt64) + (i3_.toInt64)), .second, .unset, .unset, .unset, .unset, .unset, .unset, .unset, .unset, .unset, .unset, .unset, .unset, .unset, .unset, .unset, .unset, .unset, .unset, .unset, .unset, .unset, .unset, .unset, .unset, .unset, .unset] [(.int (p4_ &&& (1 : Int32)))] _
            refine XS.ifYes X0.here hx rfl (pc0 := 62) (pc' := 69) rfl (hb hby at_62) rfl ((if0 _ _).trans (teq hj23_0).1) (by decide) (by decide) ?_
            refine XS.iconst X0.here hx rfl (hb hby at_69) ?_
            refine XS.istore X0.here hx rfl (hb hby at_70) rfl (l' := #[lvI p0_, lvI p1_, lvI p2_, lvI p3_, lvI p4_, lvI i0_, lvI i1_, lvI i2_, lvI i3_, lvJ ((i0_.toInt64) + (i1_.toInt64)), .second, lvJ ((i2_.toInt64) + (i3_.toInt64)), .second, lvI (0 : Int32), .unset, .unset, .unset, .unset, .unset, .unset, .unset, .unset, .unset, .unset, .unset, .unset, .unset, .unset, .unset, .unset, .unset, .unset, .unset, .unset, .unset, .unset, .unset, .unset, .unset]) rfl ?_
            refine XS.iload X0.here hx rfl (hb hby at_72) rfl ?_
            show own_S p e below m s₁ 74 #[lvI p0_, lvI p1_, lvI p2_, lvI p3_, lvI p4_, lvI i0_, lvI i1_, lvI i2_, lvI i3_, lvJ ((i0_.toInt64) + (i1_.toInt64)), .second, lvJ ((i2_.toInt64) + (i3_.toInt64)), .second, lvI (0 : Int32), .unset, .unset, .unset, .unset, .unset, .unset, .unset, .unset, .unset, .unset, .unset, .unset, .unset, .unset, .unset, .unset, .unset, .unset, .unset, .unset, .unset, .unset, .unset, .unset, .unset] [(.int (0 : Int32))] _
            refine XS.ifYes X0.here hx rfl (pc0 := 74) (pc' := 83) rfl (hb hby at_74) rfl ((if0 _ _).trans (teq (by decide : (0 : Int32) = (0 : Int32))).1) (by decide) (by decide) ?_
            refine XS.lconst X0.here hx rfl (hb hby at_83) ?_
            refine XS.lstore X0.here hx rfl (hb hby at_84) rfl (l' := #[lvI p0_, lvI p1_, lvI p2_, lvI p3_, lvI p4_, lvI i0_, lvI i1_, lvI i2_, lvI i3_, lvJ ((i0_.toInt64) + (i1_.toInt64)), .second, lvJ ((i2_.toInt64) + (i3_.toInt64)), .second, lvI (0 : Int32), lvJ (1 : Int64), .second, .unset, .unset, .unset, .unset, .unset, .unset, .unset, .unset, .unset, .unset, .unset, .unset, .unset, .unset, .unset, .unset, .unset, .unset, .unset, .unset, .unset, .unset, .unset]) rfl ?_
            exact kt
          exact pre25 t (by rw [ej23_0, ej23_1] at kt; exact kt)
        · have pre26 : ∀ t, own_S p e below m s₁ 86 #[lvI p0_, lvI p1_, lvI p2_, lvI p3_, lvI p4_, lvI i0_, lvI i1_, lvI i2_, lvI i3_, lvJ ((i0_.toInt64) + (i1_.toInt64)), .second, lvJ ((i2_.toInt64) + (i3_.toInt64)), .second, lvI (1 : Int32), lvJ (2 : Int64), .second, .unset, .unset, .unset, .unset, .unset, .unset, .unset, .unset, .unset, .unset, .unset, .unset, .unset, .unset, .unset, .unset, .unset, .unset, .unset, .unset, .unset, .unset, .unset] [] t → G t := by
            intro t kt
            refine pre21 t ?_
            show own_S p e below m s₁ 62 #[lvI p0_, lvI p1_, lvI p2_, lvI p3_, lvI p4_, lvI i0_, lvI i1_, lvI i2_, lvI i3_, lvJ ((i0_.toInt64) + (i1_.toInt64)), .second, lvJ ((i2_.toInt64) + (i3_.toInt64)), .second, .unset, .unset, .unset, .unset, .unset, .unset, .unset, .unset, .unset, .unset, .unset, .unset, .unset, .unset, .unset, .unset, .unset, .unset, .unset, .unset, .unset, .unset, .unset, .unset, .unset, .unset] [(.int (p4_ &&& (1 : Int32)))] _
            refine XS.ifNo X0.here hx rfl (hb hby at_62) rfl ((if0 _ _).trans (feq hj24_0).1) ?_
            refine XS.iconst X0.here hx rfl (hb hby at_65) ?_
            refine XS.goto X0.here hx rfl (pc0 := 66) (pc' := 70) rfl (hb hby at_66) (by decide) (by decide) ?_
            refine XS.istore X0.here hx rfl (hb hby at_70) rfl (l' := #[lvI p0_, lvI p1_, lvI p2_, lvI p3_, lvI p4_, lvI i0_, lvI i1_, lvI i2_, lvI i3_, lvJ ((i0_.toInt64) + (i1_.toInt64)), .second, lvJ ((i2_.toInt64) + (i3_.toInt64)), .second, lvI (1 : Int32), .unset, .unset, .unset, .unset, .unset, .unset, .unset, .unset, .unset, .unset, .unset, .unset, .unset, .unset, .unset, .unset, .unset, .unset, .unset, .unset, .unset, .unset, .unset, .unset, .unset]) rfl ?_
            refine XS.iload X0.here hx rfl (hb hby at_72) rfl ?_
            show own_S p e below m s₁ 74 #[lvI p0_, lvI p1_, lvI p2_, lvI p3_, lvI p4_, lvI i0_, lvI i1_, lvI i2_, lvI i3_, lvJ ((i0_.toInt64) + (i1_.toInt64)), .second, lvJ ((i2_.toInt64) + (i3_.toInt64)), .second, lvI (1 : Int32), .unset, .unset, .unset, .unset, .unset, .unset, .unset, .unset, .unset, .unset, .unset, .unset, .unset, .unset, .unset, .unset, .unset, .unset, .unset, .unset, .unset, .unset, .unset, .unset, .unset] [(.int (1 : Int32))] _
            refine XS.ifNo X0.here hx rfl (hb hby at_74) rfl ((if0 _ _).trans (feq (by decide : ¬ ((1 : Int32) = (0 : Int32)))).1) ?_
            show own_S p e below m s₁ 77 #[lvI p0_, lvI p1_, lvI p2_, lvI p3_, lvI p4_, lvI i0_, lvI i1_, lvI i2_, lvI i3_, lvJ ((i0_.toInt64) + (i1_.toInt64)), .second, lvJ ((i2_.toInt64) + (i3_.toInt64)), .second, lvI (1 : Int32), .unset, .unset, .unset, .unset, .unset, .unset, .unset, .unset, .unset, .unset, .unset, .unset, .unset, .unset, .unset, .unset, .unset, .unset, .unset, .unset, .unset, .unset, .unset, .unset, .unset] [] _
            refine X0.ldc2Long hx hown (mvT hZ (own_w hw 215 rfl)) (g := (mkF m 77 #[lvI p0_, lvI p1_, lvI p2_, lvI p3_, lvI p4_, lvI i0_, lvI i1_, lvI i2_, lvI i3_, lvJ ((i0_.toInt64) + (i1_.toInt64)), .second, lvJ ((i2_.toInt64) + (i3_.toInt64)), .second, lvI (1 : Int32), .unset, .unset, .unset, .unset, .unset, .unset, .unset, .unset, .unset, .unset, .unset, .unset, .unset, .unset, .unset, .unset, .unset, .unset, .unset, .unset, .unset, .unset, .unset, .unset, .unset] [])) rfl (hb hby at_77) _ ?_
            refine XS.goto X0.here hx rfl (pc0 := 80) (pc' := 84) rfl (hb hby at_80) (by decide) (by decide) ?_
            refine XS.lstore X0.here hx rfl (hb hby at_84) rfl (l' := #[lvI p0_, lvI p1_, lvI p2_, lvI p3_, lvI p4_, lvI i0_, lvI i1_, lvI i2_, lvI i3_, lvJ ((i0_.toInt64) + (i1_.toInt64)), .second, lvJ ((i2_.toInt64) + (i3_.toInt64)), .second, lvI (1 : Int32), lvJ (2 : Int64), .second, .unset, .unset, .unset, .unset, .unset, .unset, .unset, .unset, .unset, .unset, .unset, .unset, .unset, .unset, .unset, .unset, .unset, .unset, .unset, .unset, .unset, .unset, .unset]) rfl ?_
            exact kt
          exact pre26 t (by rw [ej24_0, ej24_1] at kt; exact kt)
      obtain ⟨T27, h27, k27, X27, e27, E27, A27, Z27, st27⟩ := newPE X0 hx hZ (own_w hw 1 rfl) e0 (g := (mkF m 87 #[lvI p0_, lvI p1_, lvI p2_, lvI p3_, lvI p4_, lvI i0_, lvI i1_, lvI i2_, lvI i3_, lvJ ((i0_.toInt64) + (i1_.toInt64)), .second, lvJ ((i2_.toInt64) + (i3_.toInt64)), .second, lvI zz_, lvJ kk_, .second, .unset, .unset, .unset, .unset, .unset, .unset, .unset, .unset, .unset, .unset, .unset, .unset, .unset, .unset, .unset, .unset, .unset, .unset, .unset, .unset, .unset, .unset, .unset] [(.int (2 : Int32))])) rfl (hb hby at_87) rfl (by decide) (cap := 2) (by decide) (by decide) (by decide) (by decide) (ad := "[I") (by decide)
      obtain ⟨b27, g27⟩ : ∃ z, z = h0.size := ⟨_, rfl⟩
      rw [← g27] at A27 Z27 st27
      have ge28 : n0 ≤ b27 := Nat.le_trans (Nat.le_trans (Nat.le_of_eq O0.1.symm) O0.2.1) (Nat.le_of_eq g27.symm)
      have sz29 : h0.size ≤ b27 := Nat.le_trans K0.1 (Nat.le_of_eq g27.symm)
      have f30 : Arv Z h27 b27 k27 .int (2 : Int32) [(.int (0 : Int32)), (.int (0 : Int32))] (.int (0 : Int32)) := (Arv.new A27 (by decide)).pad (pad_rep [] (.int (0 : Int32)) 2)
      obtain ⟨c31, r31, q31, s31, z31, y31, G31⟩ := id f30
      have hin31 : ¬ ((0 : Int32) < 0 ∨ c31.slots.size ≤ ((0 : Int32)).toNatClampNeg) := inb_of s31 ⟨by decide, by decide⟩
      obtain ⟨T31, h31, X31, e31, W31, st31⟩ := stI X27 hx hZ e27 r31 (j := (0 : Int32)) hin31 (g := (mkF m 96 #[lvI p0_, lvI p1_, lvI p2_, lvI p3_, lvI p4_, lvI i0_, lvI i1_, lvI i2_, lvI i3_, lvJ ((i0_.toInt64) + (i1_.toInt64)), .second, lvJ ((i2_.toInt64) + (i3_.toInt64)), .second, lvI zz_, lvJ kk_, .second, lvR b27, .unset, .unset, .unset, .unset, .unset, .unset, .unset, .unset, .unset, .unset, .unset, .unset, .unset, .unset, .unset, .unset, .unset, .unset, .unset, .unset, .unset, .unset] [(.int i0_), (.int (0 : Int32)), (.ref b27)])) rfl rfl (hb hby at_96)
      have N32 := Fr.snoc X31 N0 ge28
      have f33 : Arv Z h31 b27 k27 .int (2 : Int32) [(.int i0_), (.int (0 : Int32))] (.int (0 : Int32)) := Arv.set r31 q31 s31 z31 y31 G31 rfl W31 0 rfl (Nat.le_of_ble_eq_true rfl)
      obtain ⟨c34, r34, q34, s34, z34, y34, G34⟩ := id f33
      have hin34 : ¬ ((1 : Int32) < 0 ∨ c34.slots.size ≤ ((1 : Int32)).toNatClampNeg) := inb_of s34 ⟨by decide, by decide⟩
      obtain ⟨T34, h34, X34, e34, W34, st34⟩ := stI X31 hx hZ e31 r34 (j := (1 : Int32)) hin34 (g := (mkF m 102 #[lvI p0_, lvI p1_, lvI p2_, lvI p3_, lvI p4_, lvI i0_, lvI i1_, lvI i2_, lvI i3_, lvJ ((i0_.toInt64) + (i1_.toInt64)), .second, lvJ ((i2_.toInt64) + (i3_.toInt64)), .second, lvI zz_, lvJ kk_, .second, lvR b27, .unset, .unset, .unset, .unset, .unset, .unset, .unset, .unset, .unset, .unset, .unset, .unset, .unset, .unset, .unset, .unset, .unset, .unset, .unset, .unset, .unset, .unset] [(.int i1_), (.int (1 : Int32)), (.ref b27)])) rfl rfl (hb hby at_102)
      have N35 := Fr.snoc X34 N32 ge28
      have f36 : Arv Z h34 b27 k27 .int (2 : Int32) [(.int i0_), (.int i1_)] (.int (0 : Int32)) := Arv.set r34 q34 s34 z34 y34 G34 rfl W34 1 rfl (Nat.le_of_ble_eq_true rfl)
      obtain ⟨T37, h37, k37, X37, e37, E37, A37, Z37, st37⟩ := newPE X34 hx hZ (own_w hw 1 rfl) e34 (g := (mkF m 104 #[lvI p0_, lvI p1_, lvI p2_, lvI p3_, lvI p4_, lvI i0_, lvI i1_, lvI i2_, lvI i3_, lvJ ((i0_.toInt64) + (i1_.toInt64)), .second, lvJ ((i2_.toInt64) + (i3_.toInt64)), .second, lvI zz_, lvJ kk_, .second, lvR b27, .unset, .unset, .unset, .unset, .unset, .unset, .unset, .unset, .unset, .unset, .unset, .unset, .unset, .unset, .unset, .unset, .unset, .unset, .unset, .unset, .unset, .unset] [(.int (2 : Int32))])) rfl (hb hby at_104) rfl (by decide) (cap := 2) (by decide) (by decide) (by decide) (by decide) (ad := "[I") (by decide)
      obtain ⟨b37, g37⟩ : ∃ z, z = h34.size := ⟨_, rfl⟩
      rw [← g37] at A37 Z37 st37
      have f38 : Old Z n0 h27 := O0.ext E27
      have f39 : Old Z n0 h31 := f38.wr W31 ge28
      have f40 : Old Z n0 h34 := f39.wr W34 ge28
      have ge41 : n0 ≤ b37 := Nat.le_trans (Nat.le_trans (Nat.le_of_eq f40.1.symm) f40.2.1) (Nat.le_of_eq g37.symm)
      have f42 : Keep h0 h27 [] := K0.ext E27
      have f43 : Keep h0 h31 [] := f42.wr W31 (Or.inr sz29)
      have f44 : Keep h0 h34 [] := f43.wr W34 (Or.inr sz29)
      have sz45 : h0.size ≤ b37 := Nat.le_trans f44.1 (Nat.le_of_eq g37.symm)
      have f46 : Arv Z h37 b37 k37 .int (2 : Int32) [(.int (0 : Int32)), (.int (0 : Int32))] (.int (0 : Int32)) := (Arv.new A37 (by decide)).pad (pad_rep [] (.int (0 : Int32)) 2)
      obtain ⟨c47, r47, q47, s47, z47, y47, G47⟩ := id f46
      have hin47 : ¬ ((0 : Int32) < 0 ∨ c47.slots.size ≤ ((0 : Int32)).toNatClampNeg) := inb_of s47 ⟨by decide, by decide⟩
      obtain ⟨T47, h47, X47, e47, W47, st47⟩ := stI X37 hx hZ e37 r47 (j := (0 : Int32)) hin47 (g := (mkF m 113 #[lvI p0_, lvI p1_, lvI p2_, lvI p3_, lvI p4_, lvI i0_, lvI i1_, lvI i2_, lvI i3_, lvJ ((i0_.toInt64) + (i1_.toInt64)), .second, lvJ ((i2_.toInt64) + (i3_.toInt64)), .second, lvI zz_, lvJ kk_, .second, lvR b27, lvR b37, .unset, .unset, .unset, .unset, .unset, .unset, .unset, .unset, .unset, .unset, .unset, .unset, .unset, .unset, .unset, .unset, .unset, .unset, .unset, .unset, .unset] [(.int i2_), (.int (0 : Int32)), (.ref b37)])) rfl rfl (hb hby at_113)
      have N48 := Fr.snoc X47 N35 ge41
      have f49 : Arv Z h47 b37 k37 .int (2 : Int32) [(.int i2_), (.int (0 : Int32))] (.int (0 : Int32)) := Arv.set r47 q47 s47 z47 y47 G47 rfl W47 0 rfl (Nat.le_of_ble_eq_true rfl)
      obtain ⟨c50, r50, q50, s50, z50, y50, G50⟩ := id f49
      have hin50 : ¬ ((1 : Int32) < 0 ∨ c50.slots.size ≤ ((1 : Int32)).toNatClampNeg) := inb_of s50 ⟨by decide, by decide⟩
      obtain ⟨T50, h50, X50, e50, W50, st50⟩ := stI X47 hx hZ e47 r50 (j := (1 : Int32)) hin50 (g := (mkF m 119 #[lvI p0_, lvI p1_, lvI p2_, lvI p3_, lvI p4_, lvI i0_, lvI i1_, lvI i2_, lvI i3_, lvJ ((i0_.toInt64) + (i1_.toInt64)), .second, lvJ ((i2_.toInt64) + (i3_.toInt64)), .second, lvI zz_, lvJ kk_, .second, lvR b27, lvR b37, .unset, .unset, .unset, .unset, .unset, .unset, .unset, .unset, .unset, .unset, .unset, .unset, .unset, .unset, .unset, .unset, .unset, .unset, .unset, .unset, .unset] [(.int i3_), (.int (1 : Int32)), (.ref b37)])) rfl rfl (hb hby at_119)
      have N51 := Fr.snoc X50 N48 ge41
      have f52 : Arv Z h50 b37 k37 .int (2 : Int32) [(.int i2_), (.int i3_)] (.int (0 : Int32)) := Arv.set r50 q50 s50 z50 y50 G50 rfl W50 1 rfl (Nat.le_of_ble_eq_true rfl)
      obtain ⟨T53, h53, X53, e53, E53, A53, D53, -, st53⟩ := newO X50 hx hZ hown (own_w hw 2 rfl) (own_w hw 3 rfl) (own_w hw 4 rfl) e50 (g := (mkF m 120 #[lvI p0_, lvI p1_, lvI p2_, lvI p3_, lvI p4_, lvI i0_, lvI i1_, lvI i2_, lvI i3_, lvJ ((i0_.toInt64) + (i1_.toInt64)), .second, lvJ ((i2_.toInt64) + (i3_.toInt64)), .second, lvI zz_, lvJ kk_, .second, lvR b27, lvR b37, .unset, .unset, .unset, .unset, .unset, .unset, .unset, .unset, .unset, .unset, .unset, .unset, .unset, .unset, .unset, .unset, .unset, .unset, .unset, .unset, .unset] [])) rfl (hb hby at_120) (by decide) (by decide)
      obtain ⟨b53, g53⟩ : ∃ z, z = h50.size := ⟨_, rfl⟩
      rw [← g53] at A53 D53 st53
      have f54 : Old Z n0 h37 := f40.ext E37
      have f55 : Old Z n0 h47 := f54.wr W47 ge41
      have f56 : Old Z n0 h50 := f55.wr W50 ge41
      have ge57 : n0 ≤ b53 := Nat.le_trans (Nat.le_trans (Nat.le_of_eq f56.1.symm) f56.2.1) (Nat.le_of_eq g53.symm)
      have f58 : Keep h0 h37 [] := f44.ext E37
      have f59 : Keep h0 h47 [] := f58.wr W47 (Or.inr sz45)
      have f60 : Keep h0 h50 [] := f59.wr W50 (Or.inr sz45)
      have sz61 : h0.size ≤ b53 := Nat.le_trans f60.1 (Nat.le_of_eq g53.symm)
      have f62 : Fld Z h53 b53 cn1 "collections" "I" (.int (0 : Int32)) := D53 (Or.inr (own_w hw 12 rfl)) (ty := .int) (by decide)
      have f63 : Fld Z h53 b53 cn1 "rSums" "[D" .null := D53 (Or.inr (own_w hw 15 rfl)) (ty := (.array .double)) (by decide)
      have f64 : Fld Z h53 b53 cn1 "rHatSums" "[D" .null := D53 (Or.inr (own_w hw 17 rfl)) (ty := (.array .double)) (by decide)
      have f65 : Fld Z h53 b53 cn1 "pSums" "[D" .null := D53 (Or.inr (own_w hw 19 rfl)) (ty := (.array .double)) (by decide)
      have f66 : Fld Z h53 b53 cn1 "cpSums" "[D" .null := D53 (Or.inr (own_w hw 21 rfl)) (ty := (.array .double)) (by decide)
      have f67 : Fld Z h53 b53 cn1 "found" "[J" .null := D53 (Or.inr (own_w hw 24 rfl)) (ty := (.array .long)) (by decide)
      have f68 : Fld Z h53 b53 cn1 "best" "[J" .null := D53 (Or.inr (own_w hw 26 rfl)) (ty := (.array .long)) (by decide)
      have f69 : Fld Z h53 b53 cn1 "queries" "I" (.int (0 : Int32)) := D53 (Or.inl (own_w hw 59 rfl)) (ty := .int) (by decide)
      have f70 : Fld Z h53 b53 cn1 "relevant" "J" (.long (0 : Int64)) := D53 (Or.inl (own_w hw 61 rfl)) (ty := .long) (by decide)
      have f72 : Old Z n0 h53 := f56.ext E53
      obtain ⟨_, _, ⟨T71, L71, k71, n71⟩, -, X71, ⟨Lc71, hQ71, l71, y71, z71⟩, st71⟩ := X53.specialBack hx (y := (⟨"com/example/shortlist/shortlist/SelectionMeasures", "<init>", "(I)V"⟩ : MethodName)) rfl hown (mvT hZ (own_w hw 5 rfl)) (mvT hZ (own_w hw 6 rfl)) (mvT hZ (own_w hw 7 rfl)) (by decide) (backOf (W := 1) (rminit24 l Z a0 hw [] b53 h53 n0 f72 A53 f62 f63 f64 f65 f66 f67 f68 f69 f70 ge57) hZ (own_w hw 7 rfl) (own_w hw 4 rfl) (by decide) (by decide)) (g := (mkF m 125 #[lvI p0_, lvI p1_, lvI p2_, lvI p3_, lvI p4_, lvI i0_, lvI i1_, lvI i2_, lvI i3_, lvJ ((i0_.toInt64) + (i1_.toInt64)), .second, lvJ ((i2_.toInt64) + (i3_.toInt64)), .second, lvI zz_, lvJ kk_, .second, lvR b27, lvR b37, .unset, .unset, .unset, .unset, .unset, .unset, .unset, .unset, .unset, .unset, .unset, .unset, .unset, .unset, .unset, .unset, .unset, .unset, .unset, .unset, .unset] [(.int (2 : Int32)), (.ref b53), (.ref b53)])) rfl (by rw [hml]; rfl) (Steps.refl _) (a := b53) (argsL := [(.int (2 : Int32))]) (rest := [(.ref b53)]) (lenOf pd_14 rfl) rfl (by show 2 * 0 + _ ≤ _; exact Nat.le_of_eq rfl) (hb hby at_125) (fun _ _ => ⟨rfl, e53, (by decide : 3 + 6 ≤ _), (by decide : 13 + 12 ≤ _)⟩)
      dsimp only [Pt.U, Pt.locs, Pt.cells, Pt.slots] at X71 l71 y71 z71 st71 hQ71
      subst l71 y71 z71
      obtain ⟨h71, e71⟩ : ∃ z, T71.heap = z := ⟨_, rfl⟩
      rw [e71] at hQ71
      obtain ⟨k5_71, k18_71, k35_71, k54_71, k75_71, k98_71, nb5_71, nb18_71, nb35_71, nb54_71, nb75_71, nb98_71, rfl, N71q, K71, sznb5_71, sznb18_71, sznb35_71, sznb54_71, sznb75_71, sznb98_71, nenb5_nb18_71, nenb5_nb35_71, nenb5_nb54_71, nenb5_nb75_71, nenb5_nb98_71, nenb18_nb35_71, nenb18_nb54_71, nenb18_nb75_71, nenb18_nb98_71, nenb35_nb54_71, nenb35_nb75_71, nenb35_nb98_71, nenb54_nb75_71, nenb54_nb98_71, nenb75_nb98_71, g71_0, g71_1, g71_2, g71_3, g71_4, g71_5, g71_6, g71_7, g71_8, g71_9, g71_10, g71_11, g71_12, g71_13, g71_14, g71_15, g71_16, g71_17, g71_18, g71_19, g71_20, g71_21⟩ := hQ71
      have N73 := Fr.app N51 N71q
      have ge74 : n0 ≤ nb5_71 := Nat.le_trans (Nat.le_trans (Nat.le_of_eq f72.1.symm) f72.2.1) sznb5_71
      have f75 : Keep h0 h53 [] := f60.ext E53
      have sz76 : h0.size ≤ nb5_71 := Nat.le_trans f75.1 sznb5_71
      have ge77 : n0 ≤ nb18_71 := Nat.le_trans (Nat.le_trans (Nat.le_of_eq f72.1.symm) f72.2.1) sznb18_71
      have sz78 : h0.size ≤ nb18_71 := Nat.le_trans f75.1 sznb18_71
      have ge79 : n0 ≤ nb35_71 := Nat.le_trans (Nat.le_trans (Nat.le_of_eq f72.1.symm) f72.2.1) sznb35_71
      have sz80 : h0.size ≤ nb35_71 := Nat.le_trans f75.1 sznb35_71
      have ge81 : n0 ≤ nb54_71 := Nat.le_trans (Nat.le_trans (Nat.le_of_eq f72.1.symm) f72.2.1) sznb54_71
      have sz82 : h0.size ≤ nb54_71 := Nat.le_trans f75.1 sznb54_71
      have ge83 : n0 ≤ nb75_71 := Nat.le_trans (Nat.le_trans (Nat.le_of_eq f72.1.symm) f72.2.1) sznb75_71
      have sz84 : h0.size ≤ nb75_71 := Nat.le_trans f75.1 sznb75_71
      have ge85 : n0 ≤ nb98_71 := Nat.le_trans (Nat.le_trans (Nat.le_of_eq f72.1.symm) f72.2.1) sznb98_71
      have sz86 : h0.size ≤ nb98_71 := Nat.le_trans f75.1 sznb98_71
      have hn87 : Jvm.Free.Fl.NoNaN64 (FP.ddiv (FP.l2d ((0 : Int64) + (i0_.toInt64))) (FP.l2d ((0 : Int64) + (hi_.toInt64)))) := (own_A (own_h1 HM hS).1).1
      have hn88 : Jvm.Free.Fl.NoNaN64 (FP.dadd (0 : UInt64) qr0) := by rw [← eqr0]; exact (own_A (own_h1 HM hS).1).2.1
      have hn89 : Jvm.Free.Fl.NoNaN64 (FP.ddiv (FP.l2d (((0 : Int64) + (i0_.toInt64)) + (i1_.toInt64))) (FP.l2d (((0 : Int64) + (hi_.toInt64)) + (lo_.toInt64)))) := (own_A (own_h1 HM hS).2).1
      have hn90 : Jvm.Free.Fl.NoNaN64 (FP.dadd (0 : UInt64) qr1) := by rw [← eqr1]; exact (own_A (own_h1 HM hS).2).2.1
      have hn91 : Jvm.Free.Fl.NoNaN64 (FP.ddiv (FP.l2d ((0 : Int64) + (i0_.toInt64))) (FP.l2d (((0 : Int64) + (i0_.toInt64)) + (i1_.toInt64)))) := (own_A (own_rh HM).1).1
      have hn92 : Jvm.Free.Fl.NoNaN64 (FP.dadd (0 : UInt64) qh0) := by rw [← eqh0]; exact (own_A (own_rh HM).1).2.1
      have hn93 : Jvm.Free.Fl.NoNaN64 (FP.ddiv (FP.l2d (((0 : Int64) + (i0_.toInt64)) + (i1_.toInt64))) (FP.l2d (((0 : Int64) + (i0_.toInt64)) + (i1_.toInt64)))) := (own_A (own_rh HM).2).1
      have hn94 : Jvm.Free.Fl.NoNaN64 (FP.dadd (0 : UInt64) qh1) := by rw [← eqh1]; exact (own_A (own_rh HM).2).2.1
      have hn95 : Jvm.Free.Fl.NoNaN64 (FP.ddiv (FP.i2d ((0 : Int32) + c0_)) (FP.i2d (1 : Int32))) := (own_P0 hp0 hp1).1
      have hn96 : Jvm.Free.Fl.NoNaN64 (FP.dadd (0 : UInt64) qp0) := by rw [← eqp0]; exact (own_P0 hp0 hp1).2.1
      have hn97 : Jvm.Free.Fl.NoNaN64 (FP.ddiv (FP.i2d (((0 : Int32) + c0_) + c1_)) (FP.i2d (2 : Int32))) := (own_P1 hp0 hp1).1
      have hn98 : Jvm.Free.Fl.NoNaN64 (FP.dadd (0 : UInt64) qp1) := by rw [← eqp1]; exact (own_P1 hp0 hp1).2.1
      have hn99 : Jvm.Free.Fl.NoNaN64 (FP.ddiv (FP.l2d ((0 : Int64) + (i2_.toInt64))) (FP.l2d (((0 : Int64) + (i2_.toInt64)) + (i3_.toInt64)))) := (own_A (own_cp HM).1).1
      have hn100 : Jvm.Free.Fl.NoNaN64 (FP.dadd (0 : UInt64) qc0) := by rw [← eqc0]; exact (own_A (own_cp HM).1).2.1
      have hn101 : Jvm.Free.Fl.NoNaN64 (FP.ddiv (FP.l2d (((0 : Int64) + (i2_.toInt64)) + (i3_.toInt64))) (FP.l2d (((0 : Int64) + (i2_.toInt64)) + (i3_.toInt64)))) := (own_A (own_cp HM).2).1
      have hn102 : Jvm.Free.Fl.NoNaN64 (FP.dadd (0 : UInt64) qc1) := by rw [← eqc1]; exact (own_A (own_cp HM).2).2.1
      have f104 : Exa Z h31 b27 "[I" := Z27.wr W31
      have f105 : Exa Z h34 b27 "[I" := f104.wr W34
      have f106 : Exa Z h37 b27 "[I" := f105.ext E37
      have f107 : Exa Z h47 b27 "[I" := f106.wr W47
      have f108 : Exa Z h50 b27 "[I" := f107.wr W50
      have f109 : Exa Z h53 b27 "[I" := f108.ext E53
      have f110 : Exa Z h71 b27 "[I" := f109.keep K71
      have f111 : Arv Z h37 b27 k27 .int (2 : Int32) [(.int i0_), (.int i1_)] (.int (0 : Int32)) := f36.ext E37
      have ne113 : b27 ≠ b37 := Nat.ne_of_lt (Nat.lt_of_lt_of_le f36.lt (Nat.le_of_eq g37.symm))
      have f112 : Arv Z h47 b27 k27 .int (2 : Int32) [(.int i0_), (.int i1_)] (.int (0 : Int32)) := f111.other W47 ne113
      have f114 : Arv Z h50 b27 k27 .int (2 : Int32) [(.int i0_), (.int i1_)] (.int (0 : Int32)) := f112.other W50 ne113
      have f115 : Arv Z h53 b27 k27 .int (2 : Int32) [(.int i0_), (.int i1_)] (.int (0 : Int32)) := f114.ext E53
      have ne117 : b27 ≠ b53 := Nat.ne_of_lt (Nat.lt_of_lt_of_le f114.lt (Nat.le_of_eq g53.symm))
      have f116 : Arv Z h71 b27 k27 .int (2 : Int32) [(.int i0_), (.int i1_)] (.int (0 : Int32)) := f115.keep K71 (ninS ne117 nin0)
      have f118 : Arv Z h53 b37 k37 .int (2 : Int32) [(.int i2_), (.int i3_)] (.int (0 : Int32)) := f52.ext E53
      have ne120 : b37 ≠ b53 := Nat.ne_of_lt (Nat.lt_of_lt_of_le f52.lt (Nat.le_of_eq g53.symm))
      have f119 : Arv Z h71 b37 k37 .int (2 : Int32) [(.int i2_), (.int i3_)] (.int (0 : Int32)) := f118.keep K71 (ninS ne120 nin0)
      have ne121 : b53 ≠ nb5_71 := Nat.ne_of_lt (Nat.lt_of_lt_of_le A53.lt sznb5_71)
      have ne122 : b53 ≠ nb18_71 := Nat.ne_of_lt (Nat.lt_of_lt_of_le A53.lt sznb18_71)
      have ne123 : b53 ≠ nb35_71 := Nat.ne_of_lt (Nat.lt_of_lt_of_le A53.lt sznb35_71)
      have ne124 : b53 ≠ nb54_71 := Nat.ne_of_lt (Nat.lt_of_lt_of_le A53.lt sznb54_71)
      have ne125 : b53 ≠ nb75_71 := Nat.ne_of_lt (Nat.lt_of_lt_of_le A53.lt sznb75_71)
      have ne126 : b53 ≠ nb98_71 := Nat.ne_of_lt (Nat.lt_of_lt_of_le A53.lt sznb98_71)
      have ne127 : b27 ≠ nb5_71 := Nat.ne_of_lt (Nat.lt_of_lt_of_le f115.lt sznb5_71)
      have ne128 : b27 ≠ nb18_71 := Nat.ne_of_lt (Nat.lt_of_lt_of_le f115.lt sznb18_71)
      have ne129 : b27 ≠ nb35_71 := Nat.ne_of_lt (Nat.lt_of_lt_of_le f115.lt sznb35_71)
      have ne130 : b27 ≠ nb54_71 := Nat.ne_of_lt (Nat.lt_of_lt_of_le f115.lt sznb54_71)
      have ne131 : b27 ≠ nb75_71 := Nat.ne_of_lt (Nat.lt_of_lt_of_le f115.lt sznb75_71)
      have ne132 : b27 ≠ nb98_71 := Nat.ne_of_lt (Nat.lt_of_lt_of_le f115.lt sznb98_71)
      have ne133 : b37 ≠ nb5_71 := Nat.ne_of_lt (Nat.lt_of_lt_of_le f118.lt sznb5_71)
      have ne134 : b37 ≠ nb18_71 := Nat.ne_of_lt (Nat.lt_of_lt_of_le f118.lt sznb18_71)
      have ne135 : b37 ≠ nb35_71 := Nat.ne_of_lt (Nat.lt_of_lt_of_le f118.lt sznb35_71)
      have ne136 : b37 ≠ nb54_71 := Nat.ne_of_lt (Nat.lt_of_lt_of_le f118.lt sznb54_71)
      have ne137 : b37 ≠ nb75_71 := Nat.ne_of_lt (Nat.lt_of_lt_of_le f118.lt sznb75_71)
      have ne138 : b37 ≠ nb98_71 := Nat.ne_of_lt (Nat.lt_of_lt_of_le f118.lt sznb98_71)
      have f139 : Old Z n0 h71 := f72.keep K71 (allS (ge57) all0)
      obtain ⟨cq103, kq103, q103a, q103b, q103c⟩ := isOf hZ e71 g71_0
      obtain ⟨_, _, ⟨T103, L103, k103, n103⟩, -, X103, ⟨Lc103, hQ103, l103, y103, z103⟩, st103⟩ := X71.virtualBack hx (y := (⟨"com/example/shortlist/shortlist/SelectionMeasures", "add", "([I[I)V"⟩ : MethodName)) (z := (⟨"com/example/shortlist/shortlist/SelectionMeasures", "add", "([I[I)V"⟩ : MethodName)) hown (mvT hZ (own_w hw 27 rfl)) (mvT hZ (own_w hw 28 rfl)) (notFace_of_selects (args := #[]) (mvT hZ (own_w hw 30 rfl))) (mvT hZ (own_w hw 30 rfl)) (mvT hZ (own_w hw 29 rfl)) (by decide) (backOf (W := 0) (rmAdd l Z a0 hw [] b53 (0 : Int32) (0 : Int64) nb5_71 k5_71 (0 : UInt64) (0 : UInt64) nb18_71 k18_71 (0 : UInt64) (0 : UInt64) nb35_71 k35_71 (0 : UInt64) (0 : UInt64) nb54_71 k54_71 (0 : UInt64) (0 : UInt64) nb75_71 k75_71 (0 : Int64) (0 : Int64) nb98_71 k98_71 (0 : Int64) (0 : Int64) b27 k27 b37 k37 i0_ i1_ i2_ i3_ lo_ hi_ c0_ c1_ qr0 qr1 qh0 qh1 qp0 qp1 qc0 qc1 h71 n0 f139 hn3 hn5 hn7 hn9 hn19 hn20 hS hp0 hp1 eqr0 eqr1 eqh0 eqh1 eqp0 eqp1 eqc0 eqc1 hn87 hn89 hn91 hn93 hn95 hn97 hn99 hn101 hn88 hn90 hn92 hn94 hn96 hn98 hn100 hn102 g71_0 g71_1 g71_8 g71_9 g71_2 g71_10 g71_3 g71_12 g71_4 g71_14 g71_5 g71_16 g71_6 g71_18 g71_7 g71_20 f110 f116 f119 ge74 ne121 (Ne.symm nenb5_nb18_71) ge77 ne122 (Ne.symm nenb5_nb35_71) (Ne.symm nenb18_nb35_71) ge79 ne123 (Ne.symm nenb5_nb54_71) (Ne.symm nenb18_nb54_71) (Ne.symm nenb35_nb54_71) ge81 ne124 (Ne.symm nenb5_nb75_71) (Ne.symm nenb18_nb75_71) (Ne.symm nenb35_nb75_71) (Ne.symm nenb54_nb75_71) ge83 ne125 (Ne.symm nenb5_nb98_71) (Ne.symm nenb18_nb98_71) (Ne.symm nenb35_nb98_71) (Ne.symm nenb54_nb98_71) (Ne.symm nenb75_nb98_71) ge85 ne126 ne127 ne128 ne129 ne130 ne131 ne132 ne133 ne134 ne135 ne136 ne137 ne138 ge57) hZ (own_w hw 31 rfl) (own_w hw 4 rfl) (by decide) (by decide)) q103a q103c (g := (mkF m 136 #[lvI p0_, lvI p1_, lvI p2_, lvI p3_, lvI p4_, lvI i0_, lvI i1_, lvI i2_, lvI i3_, lvJ ((i0_.toInt64) + (i1_.toInt64)), .second, lvJ ((i2_.toInt64) + (i3_.toInt64)), .second, lvI zz_, lvJ kk_, .second, lvR b27, lvR b37, lvR b53, .unset, .unset, .unset, .unset, .unset, .unset, .unset, .unset, .unset, .unset, .unset, .unset, .unset, .unset, .unset, .unset, .unset, .unset, .unset, .unset] [(.ref b37), (.ref b27), (.ref b53)])) rfl (by rw [hml]; rfl) (Steps.refl _) (argsL := [(.ref b27), (.ref b37)]) (rest := []) (lenOf pd_15 rfl) rfl (by show 2 * 0 + _ ≤ _; exact Nat.le_of_eq rfl) (hb hby at_136) (fun _ _ => ⟨rfl, e71, (by decide : 9 + 1 ≤ _), (by decide : 25 + 2 ≤ _)⟩)
      dsimp only [Pt.U, Pt.locs, Pt.cells, Pt.slots] at X103 l103 y103 z103 st103 hQ103
      subst l103 y103 z103
      obtain ⟨h103, e103⟩ : ∃ z, T103.heap = z := ⟨_, rfl⟩
      rw [e103] at hQ103
      obtain ⟨rfl, N103q, K103, g103_0, g103_1, g103_2, g103_3, g103_4, g103_5, g103_6, g103_7, g103_8, g103_9, g103_10, g103_11, g103_12, g103_13, g103_14, g103_15⟩ := hQ103
      have N140 := Fr.app N73 N103q
      have pre141 : ∀ t, own_S p e below m T103 139 #[lvI p0_, lvI p1_, lvI p2_, lvI p3_, lvI p4_, lvI i0_, lvI i1_, lvI i2_, lvI i3_, lvJ ((i0_.toInt64) + (i1_.toInt64)), .second, lvJ ((i2_.toInt64) + (i3_.toInt64)), .second, lvI zz_, lvJ kk_, .second, lvR b27, lvR b37, lvR b53, .unset, .unset, .unset, .unset, .unset, .unset, .unset, .unset, .unset, .unset, .unset, .unset, .unset, .unset, .unset, .unset, .unset, .unset, .unset, .unset] [] t → G t := by
        intro t kt
        refine pre22 t ?_
        show own_S p e below m s₁ 86 #[lvI p0_, lvI p1_, lvI p2_, lvI p3_, lvI p4_, lvI i0_, lvI i1_, lvI i2_, lvI i3_, lvJ ((i0_.toInt64) + (i1_.toInt64)), .second, lvJ ((i2_.toInt64) + (i3_.toInt64)), .second, lvI zz_, lvJ kk_, .second, .unset, .unset, .unset, .unset, .unset, .unset, .unset, .unset, .unset, .unset, .unset, .unset, .unset, .unset, .unset, .unset, .unset, .unset, .unset, .unset, .unset, .unset, .unset] [] _
        refine XS.iconst X0.here hx rfl (hb hby at_86) ?_
        show own_S p e below m s₁ 87 #[lvI p0_, lvI p1_, lvI p2_, lvI p3_, lvI p4_, lvI i0_, lvI i1_, lvI i2_, lvI i3_, lvJ ((i0_.toInt64) + (i1_.toInt64)), .second, lvJ ((i2_.toInt64) + (i3_.toInt64)), .second, lvI zz_, lvJ kk_, .second, .unset, .unset, .unset, .unset, .unset, .unset, .unset, .unset, .unset, .unset, .unset, .unset, .unset, .unset, .unset, .unset, .unset, .unset, .unset, .unset, .unset, .unset, .unset] [(.int (2 : Int32))] _
        refine st27 _ ?_
        refine XS.astore X27.here hx rfl (hb hby at_89) rfl rfl (l' := #[lvI p0_, lvI p1_, lvI p2_, lvI p3_, lvI p4_, lvI i0_, lvI i1_, lvI i2_, lvI i3_, lvJ ((i0_.toInt64) + (i1_.toInt64)), .second, lvJ ((i2_.toInt64) + (i3_.toInt64)), .second, lvI zz_, lvJ kk_, .second, lvR b27, .unset, .unset, .unset, .unset, .unset, .unset, .unset, .unset, .unset, .unset, .unset, .unset, .unset, .unset, .unset, .unset, .unset, .unset, .unset, .unset, .unset, .unset]) rfl ?_
        refine XS.aload X27.here hx rfl (hb hby at_91) rfl rfl ?_
        refine XS.iconst X27.here hx rfl (hb hby at_93) ?_
        refine XS.iload X27.here hx rfl (hb hby at_94) rfl ?_
        show own_S p e below m T27 96 #[lvI p0_, lvI p1_, lvI p2_, lvI p3_, lvI p4_, lvI i0_, lvI i1_, lvI i2_, lvI i3_, lvJ ((i0_.toInt64) + (i1_.toInt64)), .second, lvJ ((i2_.toInt64) + (i3_.toInt64)), .second, lvI zz_, lvJ kk_, .second, lvR b27, .unset, .unset, .unset, .unset, .unset, .unset, .unset, .unset, .unset, .unset, .unset, .unset, .unset, .unset, .unset, .unset, .unset, .unset, .unset, .unset, .unset, .unset] [(.int i0_), (.int (0 : Int32)), (.ref b27)] _
        refine st31 _ ?_
        refine XS.aload X31.here hx rfl (hb hby at_97) rfl rfl ?_
        refine XS.iconst X31.here hx rfl (hb hby at_99) ?_
        refine XS.iload X31.here hx rfl (hb hby at_100) rfl ?_
        show own_S p e below m T31 102 #[lvI p0_, lvI p1_, lvI p2_, lvI p3_, lvI p4_, lvI i0_, lvI i1_, lvI i2_, lvI i3_, lvJ ((i0_.toInt64) + (i1_.toInt64)), .second, lvJ ((i2_.toInt64) + (i3_.toInt64)), .second, lvI zz_, lvJ kk_, .second, lvR b27, .unset, .unset, .unset, .unset, .unset, .unset, .unset, .unset, .unset, .unset, .unset, .unset, .unset, .unset, .unset, .unset, .unset, .unset, .unset, .unset, .unset, .unset] [(.int i1_), (.int (1 : Int32)), (.ref b27)] _
        refine st34 _ ?_
        refine XS.iconst X34.here hx rfl (hb hby at_103) ?_
        show own_S p e below m T34 104 #[lvI p0_, lvI p1_, lvI p2_, lvI p3_, lvI p4_, lvI i0_, lvI i1_, lvI i2_, lvI i3_, lvJ ((i0_.toInt64) + (i1_.toInt64)), .second, lvJ ((i2_.toInt64) + (i3_.toInt64)), .second, lvI zz_, lvJ kk_, .second, lvR b27, .unset, .unset, .unset, .unset, .unset, .unset, .unset, .unset, .unset, .unset, .unset, .unset, .unset, .unset, .unset, .unset, .unset, .unset, .unset, .unset, .unset, .unset] [(.int (2 : Int32))] _
        refine st37 _ ?_
        refine XS.astore X37.here hx rfl (hb hby at_106) rfl rfl (l' := #[lvI p0_, lvI p1_, lvI p2_, lvI p3_, lvI p4_, lvI i0_, lvI i1_, lvI i2_, lvI i3_, lvJ ((i0_.toInt64) + (i1_.toInt64)), .second, lvJ ((i2_.toInt64) + (i3_.toInt64)), .second, lvI zz_, lvJ kk_, .second, lvR b27, lvR b37, .unset, .unset, .unset, .unset, .unset, .unset, .unset, .unset, .unset, .unset, .unset, .unset, .unset, .unset, .unset, .unset, .unset, .unset, .unset, .unset, .unset]) rfl ?_
        refine XS.aload X37.here hx rfl (hb hby at_108) rfl rfl ?_
        refine XS.iconst X37.here hx rfl (hb hby at_110) ?_
        refine XS.iload X37.here hx rfl (hb hby at_111) rfl ?_
        show own_S p e below m T37 113 #[lvI p0_, lvI p1_, lvI p2_, lvI p3_, lvI p4_, lvI i0_, lvI i1_, lvI i2_, lvI i3_, lvJ ((i0_.toInt64) + (i1_.toInt64)), .second, lvJ ((i2_.toInt64) + (i3_.toInt64)), .second, lvI zz_, lvJ kk_, .second, lvR b27, lvR b37, .unset, .unset, .unset, .unset, .unset, .unset, .unset, .unset, .unset, .unset, .unset, .unset, .unset, .unset, .unset, .unset, .unset, .unset, .unset, .unset, .unset] [(.int i2_), (.int (0 : Int32)), (.ref b37)] _
        refine st47 _ ?_
        refine XS.aload X47.here hx rfl (hb hby at_114) rfl rfl ?_
        refine XS.iconst X47.here hx rfl (hb hby at_116) ?_
        refine XS.iload X47.here hx rfl (hb hby at_117) rfl ?_
        show own_S p e below m T47 119 #[lvI p0_, lvI p1_, lvI p2_, lvI p3_, lvI p4_, lvI i0_, lvI i1_, lvI i2_, lvI i3_, lvJ ((i0_.toInt64) + (i1_.toInt64)), .second, lvJ ((i2_.toInt64) + (i3_.toInt64)), .second, lvI zz_, lvJ kk_, .second, lvR b27, lvR b37, .unset, .unset, .unset, .unset, .unset, .unset, .unset, .unset, .unset, .unset, .unset, .unset, .unset, .unset, .unset, .unset, .unset, .unset, .unset, .unset, .unset] [(.int i3_), (.int (1 : Int32)), (.ref b37)] _
        refine st50 _ ?_
        show own_S p e below m T50 120 #[lvI p0_, lvI p1_, lvI p2_, lvI p3_, lvI p4_, lvI i0_, lvI i1_, lvI i2_, lvI i3_, lvJ ((i0_.toInt64) + (i1_.toInt64)), .second, lvJ ((i2_.toInt64) + (i3_.toInt64)), .second, lvI zz_, lvJ kk_, .second, lvR b27, lvR b37, .unset, .unset, .unset, .unset, .unset, .unset, .unset, .unset, .unset, .unset, .unset, .unset, .unset, .unset, .unset, .unset, .unset, .unset, .unset, .unset, .unset] [] _
        refine st53 _ ?_
        refine XS.dup X53.here hx rfl (hb hby at_123) rfl rfl ?_
        refine XS.iconst X53.here hx rfl (hb hby at_124) ?_
        show own_S p e below m T53 125 #[lvI p0_, lvI p1_, lvI p2_, lvI p3_, lvI p4_, lvI i0_, lvI i1_, lvI i2_, lvI i3_, lvJ ((i0_.toInt64) + (i1_.toInt64)), .second, lvJ ((i2_.toInt64) + (i3_.toInt64)), .second, lvI zz_, lvJ kk_, .second, lvR b27, lvR b37, .unset, .unset, .unset, .unset, .unset, .unset, .unset, .unset, .unset, .unset, .unset, .unset, .unset, .unset, .unset, .unset, .unset, .unset, .unset, .unset, .unset] [(.int (2 : Int32)), (.ref b53), (.ref b53)] _
        refine st71.trans ?_
        refine XS.astore X71.here hx rfl (hb hby at_128) rfl rfl (l' := #[lvI p0_, lvI p1_, lvI p2_, lvI p3_, lvI p4_, lvI i0_, lvI i1_, lvI i2_, lvI i3_, lvJ ((i0_.toInt64) + (i1_.toInt64)), .second, lvJ ((i2_.toInt64) + (i3_.toInt64)), .second, lvI zz_, lvJ kk_, .second, lvR b27, lvR b37, lvR b53, .unset, .unset, .unset, .unset, .unset, .unset, .unset, .unset, .unset, .unset, .unset, .unset, .unset, .unset, .unset, .unset, .unset, .unset, .unset, .unset]) rfl ?_
        refine XS.aload X71.here hx rfl (hb hby at_130) rfl rfl ?_
        refine XS.aload X71.here hx rfl (hb hby at_132) rfl rfl ?_
        refine XS.aload X71.here hx rfl (hb hby at_134) rfl rfl ?_
        show own_S p e below m T71 136 #[lvI p0_, lvI p1_, lvI p2_, lvI p3_, lvI p4_, lvI i0_, lvI i1_, lvI i2_, lvI i3_, lvJ ((i0_.toInt64) + (i1_.toInt64)), .second, lvJ ((i2_.toInt64) + (i3_.toInt64)), .second, lvI zz_, lvJ kk_, .second, lvR b27, lvR b37, lvR b53, .unset, .unset, .unset, .unset, .unset, .unset, .unset, .unset, .unset, .unset, .unset, .unset, .unset, .unset, .unset, .unset, .unset, .unset, .unset, .unset] [(.ref b37), (.ref b27), (.ref b53)] _
        refine st103.trans ?_
        exact kt
      rcases hzk with ⟨hzc, hz1_, hk1_⟩ | ⟨hzc, hz1_, hk1_⟩
      · have pre142 : ∀ t, own_S p e below m T103 139 #[lvI p0_, lvI p1_, lvI p2_, lvI p3_, lvI p4_, lvI i0_, lvI i1_, lvI i2_, lvI i3_, lvJ ((i0_.toInt64) + (i1_.toInt64)), .second, lvJ ((i2_.toInt64) + (i3_.toInt64)), .second, lvI (0 : Int32), lvJ kk_, .second, lvR b27, lvR b37, lvR b53, .unset, .unset, .unset, .unset, .unset, .unset, .unset, .unset, .unset, .unset, .unset, .unset, .unset, .unset, .unset, .unset, .unset, .unset, .unset, .unset] [] t → G t := fun t kt => pre141 t (by rw [hz1_]; exact kt)
        have pre143 : ∀ t, own_S p e below m T103 139 #[lvI p0_, lvI p1_, lvI p2_, lvI p3_, lvI p4_, lvI i0_, lvI i1_, lvI i2_, lvI i3_, lvJ ((i0_.toInt64) + (i1_.toInt64)), .second, lvJ ((i2_.toInt64) + (i3_.toInt64)), .second, lvI (0 : Int32), lvJ (1 : Int64), .second, lvR b27, lvR b37, lvR b53, .unset, .unset, .unset, .unset, .unset, .unset, .unset, .unset, .unset, .unset, .unset, .unset, .unset, .unset, .unset, .unset, .unset, .unset, .unset, .unset] [] t → G t := fun t kt => pre142 t (by rw [hk1_]; exact kt)
        have hn144 : ¬ (((0 : Int32) + (1 : Int32)) = (0 : Int32)) := by decide
        have hn145 : Jvm.Free.Fl.NoNaN64 (FP.ddiv (FP.dadd (0 : UInt64) qr0) (FP.i2d ((0 : Int32) + (1 : Int32)))) := by rw [← eqr0]; exact (own_A (own_h1 HM hS).1).2.2.1
        have hn146 : Jvm.Free.Fl.NoNaN64 (FP.ddiv (FP.dadd (0 : UInt64) qr1) (FP.i2d ((0 : Int32) + (1 : Int32)))) := by rw [← eqr1]; exact (own_A (own_h1 HM hS).2).2.2.1
        have hn147 : Jvm.Free.Fl.NoNaN64 (FP.ddiv (FP.dadd (0 : UInt64) qh0) (FP.i2d ((0 : Int32) + (1 : Int32)))) := by rw [← eqh0]; exact (own_A (own_rh HM).1).2.2.1
        have hn148 : Jvm.Free.Fl.NoNaN64 (FP.ddiv (FP.dadd (0 : UInt64) qh1) (FP.i2d ((0 : Int32) + (1 : Int32)))) := by rw [← eqh1]; exact (own_A (own_rh HM).2).2.2.1
        have hn149 : Jvm.Free.Fl.NoNaN64 (FP.ddiv (FP.dadd (0 : UInt64) qp0) (FP.i2d ((0 : Int32) + (1 : Int32)))) := by rw [← eqp0]; exact (own_P0 hp0 hp1).2.2.1
        have hn150 : Jvm.Free.Fl.NoNaN64 (FP.ddiv (FP.dadd (0 : UInt64) qp1) (FP.i2d ((0 : Int32) + (1 : Int32)))) := by rw [← eqp1]; exact (own_P1 hp0 hp1).2.2.1
        have hn151 : Jvm.Free.Fl.NoNaN64 (FP.ddiv (FP.dadd (0 : UInt64) qc0) (FP.i2d ((0 : Int32) + (1 : Int32)))) := by rw [← eqc0]; exact (own_A (own_cp HM).1).2.2.1
        have hn152 : Jvm.Free.Fl.NoNaN64 (FP.ddiv (FP.dadd (0 : UInt64) qc1) (FP.i2d ((0 : Int32) + (1 : Int32)))) := by rw [← eqc1]; exact (own_A (own_cp HM).2).2.2.1
        have hn153 : Jvm.Free.Fl.NoNaN64 (FP.ddiv (FP.l2d ((0 : Int64) + ((0 : Int64) + (i0_.toInt64)))) (FP.l2d ((0 : Int64) + ((0 : Int64) + (hi_.toInt64))))) := own_ns1 (own_h1 HM hS).1
        have hn154 : Jvm.Free.Fl.NoNaN64 (FP.ddiv (FP.l2d ((0 : Int64) + (((0 : Int64) + (i0_.toInt64)) + (i1_.toInt64)))) (FP.l2d ((0 : Int64) + (((0 : Int64) + (hi_.toInt64)) + (lo_.toInt64))))) := own_ns1 (own_h1 HM hS).2
        have hn155 : Jvm.Free.Fl.NoNaN64 (FP.ddiv (FP.l2d ((0 : Int64) + ((0 : Int64) + (i0_.toInt64)))) (FP.l2d ((0 : Int64) + (((0 : Int64) + (i0_.toInt64)) + (i1_.toInt64))))) := own_ns1 (own_rh HM).1
        have hn156 : Jvm.Free.Fl.NoNaN64 (FP.ddiv (FP.l2d ((0 : Int64) + (((0 : Int64) + (i0_.toInt64)) + (i1_.toInt64)))) (FP.l2d ((0 : Int64) + (((0 : Int64) + (i0_.toInt64)) + (i1_.toInt64))))) := own_ns1 (own_rh HM).2
        have f158 : Old Z n0 h103 := f139.keep K103 (allS (ge74) (allS (ge77) (allS (ge79) (allS (ge81) (allS (ge83) (allS (ge85) (allS (ge57) all0)))))))
        obtain ⟨cq157, kq157, q157a, q157b, q157c⟩ := isOf hZ e103 g103_0
        obtain ⟨_, _, ⟨T157, L157, k157, n157⟩, -, X157, ⟨Lc157, hQ157, l157, y157, z157⟩, st157⟩ := X103.virtualBack hx (y := mn5) (z := mn5) hown (mvT hZ (own_w hw 62 rfl)) (mvT hZ (own_w hw 63 rfl)) (notFace_of_selects (args := #[]) (mvT hZ (own_w hw 65 rfl))) (mvT hZ (own_w hw 65 rfl)) (mvT hZ (own_w hw 64 rfl)) (by decide) (backOf (W := 0) (rmRows l Z a0 hw [] b53 ((0 : Int32) + (1 : Int32)) ((0 : Int64) + (((0 : Int64) + (i0_.toInt64)) + (i1_.toInt64))) nb5_71 k5_71 (FP.dadd (0 : UInt64) qr0) (FP.dadd (0 : UInt64) qr1) nb18_71 k18_71 (FP.dadd (0 : UInt64) qh0) (FP.dadd (0 : UInt64) qh1) nb35_71 k35_71 (FP.dadd (0 : UInt64) qp0) (FP.dadd (0 : UInt64) qp1) nb54_71 k54_71 (FP.dadd (0 : UInt64) qc0) (FP.dadd (0 : UInt64) qc1) nb75_71 k75_71 ((0 : Int64) + ((0 : Int64) + (i0_.toInt64))) ((0 : Int64) + (((0 : Int64) + (i0_.toInt64)) + (i1_.toInt64))) nb98_71 k98_71 ((0 : Int64) + ((0 : Int64) + (hi_.toInt64))) ((0 : Int64) + (((0 : Int64) + (hi_.toInt64)) + (lo_.toInt64))) w_DEFAULTCAPACITY_EMPTY_ELEMENTDATA w_EMPTY_ELEMENTDATA k_w_EMPTY_ELEMENTDATA k_w_DEFAULTCAPACITY_EMPTY_ELEMENTDATA h103 n0 f158 hn144 hn145 hn147 hn149 hn151 hn153 hn155 hn146 hn148 hn150 hn152 hn154 hn156 g103_0 g103_1 g103_2 g103_3 g103_4 g103_5 g103_6 g103_7 g103_8 g103_9 g103_10 g103_11 g103_12 g103_13 g103_14 g103_15 P0 P1 P2 P3 P4 P5) hZ (own_w hw 66 rfl) (own_w hw 4 rfl) (by decide) (by decide)) q157a q157c (g := (mkF m 155 #[lvI p0_, lvI p1_, lvI p2_, lvI p3_, lvI p4_, lvI i0_, lvI i1_, lvI i2_, lvI i3_, lvJ ((i0_.toInt64) + (i1_.toInt64)), .second, lvJ ((i2_.toInt64) + (i3_.toInt64)), .second, lvI (0 : Int32), lvJ (1 : Int64), .second, lvR b27, lvR b37, lvR b53, .unset, .unset, .unset, .unset, .unset, .unset, .unset, .unset, .unset, .unset, .unset, .unset, .unset, .unset, .unset, .unset, .unset, .unset, .unset, .unset] [(.ref b53)])) rfl (by rw [hml]; rfl) (Steps.refl _) (argsL := []) (rest := []) (lenOf pd_16 rfl) rfl (by show 2 * 0 + _ ≤ _; exact Nat.le_of_eq rfl) (hb hby at_155) (fun _ _ => ⟨rfl, e103, (by decide : 10 + 4 ≤ _), (by decide : 27 + 27 ≤ _)⟩)
        dsimp only [Pt.U, Pt.locs, Pt.cells, Pt.slots] at X157 l157 y157 z157 st157 hQ157
        subst l157 y157 z157
        obtain ⟨h157, e157⟩ : ∃ z, T157.heap = z := ⟨_, rfl⟩
        rw [e157] at hQ157
        obtain ⟨k8_2_3_9_98_157, nb2_157, nnnnnb8_2_3_9_98_157, nb15_157, nb121_157, rfl, N157q, K157, sznb2_157, sznnnnnb8_2_3_9_98_157, sznb15_157, sznb121_157, nenb2_nnnnnb8_2_3_9_98_157, nenb2_nb15_157, nenb2_nb121_157, nennnnnb8_2_3_9_98_nb15_157, nennnnnb8_2_3_9_98_nb121_157, nenb15_nb121_157, g157_0, g157_1, g157_2, g157_3, g157_4, g157_5, g157_6, g157_7, g157_8, g157_9, g157_10, g157_11, g157_12, g157_13, g157_14, g157_15, g157_16, g157_17, g157_18, g157_19, g157_20, g157_21⟩ := hQ157
        have N159 := Fr.app N140 N157q
        have ge160 : n0 ≤ nb2_157 := Nat.le_trans (Nat.le_trans (Nat.le_of_eq f158.1.symm) f158.2.1) sznb2_157
        have f161 : Keep h0 h71 [] := f75.trans K71 (allS (Or.inr sz61) all0)
        have f162 : Keep h0 h103 [] := f161.trans K103 (allS (Or.inr sz76) (allS (Or.inr sz78) (allS (Or.inr sz80) (allS (Or.inr sz82) (allS (Or.inr sz84) (allS (Or.inr sz86) (allS (Or.inr sz61) all0)))))))
        have sz163 : h0.size ≤ nb2_157 := Nat.le_trans f162.1 sznb2_157
        have ge164 : n0 ≤ nnnnnb8_2_3_9_98_157 := Nat.le_trans (Nat.le_trans (Nat.le_of_eq f158.1.symm) f158.2.1) sznnnnnb8_2_3_9_98_157
        have sz165 : h0.size ≤ nnnnnb8_2_3_9_98_157 := Nat.le_trans f162.1 sznnnnnb8_2_3_9_98_157
        have ge166 : n0 ≤ nb15_157 := Nat.le_trans (Nat.le_trans (Nat.le_of_eq f158.1.symm) f158.2.1) sznb15_157
        have sz167 : h0.size ≤ nb15_157 := Nat.le_trans f162.1 sznb15_157
        have ge168 : n0 ≤ nb121_157 := Nat.le_trans (Nat.le_trans (Nat.le_of_eq f158.1.symm) f158.2.1) sznb121_157
        have sz169 : h0.size ≤ nb121_157 := Nat.le_trans f162.1 sznb121_157
        have f171 : Old Z n0 h157 := f158.keep K157 all0
        obtain ⟨cq170, kq170, q170a, q170b, q170c⟩ := isOf hZ e157 g157_0
        obtain ⟨_, _, ⟨T170, L170, k170, n170⟩, -, X170, ⟨Lc170, hQ170, l170, y170, z170⟩, st170⟩ := X157.interfaceBack hx (xi := (⟨"java/util/List", "size", "()I"⟩ : MethodName)) (y := (⟨"java/util/ArrayList", "size", "()I"⟩ : MethodName)) hown (mvT hZ (own_w hw 152 rfl)) (mvT hZ (own_w hw 153 rfl)) (mvT hZ (own_w hw 154 rfl)) (mvT hZ (own_w hw 155 rfl)) (mvT hZ (own_w hw 156 rfl)) (mvT hZ (own_w hw 157 rfl)) (mvT hZ (own_w hw 158 rfl)) (mvT hZ (own_w hw 124 rfl)) (by decide) (backOf (W := 0) (rmSize l Z a0 hw [] nb2_157 (2 : Int32) h157 n0 f171 g157_3) hZ (own_w hw 159 rfl) (own_w hw 69 rfl) (by decide) (by decide)) q170a q170b q170c (g := (mkF m 162 #[lvI p0_, lvI p1_, lvI p2_, lvI p3_, lvI p4_, lvI i0_, lvI i1_, lvI i2_, lvI i3_, lvJ ((i0_.toInt64) + (i1_.toInt64)), .second, lvJ ((i2_.toInt64) + (i3_.toInt64)), .second, lvI (0 : Int32), lvJ (1 : Int64), .second, lvR b27, lvR b37, lvR b53, lvR nb2_157, .unset, .unset, .unset, .unset, .unset, .unset, .unset, .unset, .unset, .unset, .unset, .unset, .unset, .unset, .unset, .unset, .unset, .unset, .unset] [(.ref nb2_157)])) rfl (by rw [hml]; rfl) (Steps.refl _) (argsL := []) (rest := []) (lenOf pd_17 rfl) rfl (by show 2 * 0 + _ ≤ _; exact Nat.le_of_eq rfl) (hb hby at_162) (fun _ _ => ⟨rfl, e157, (by decide : 14 + 0 ≤ _), (by decide : 54 + 0 ≤ _)⟩)
        dsimp only [Pt.U, Pt.locs, Pt.cells, Pt.slots] at X170 l170 y170 z170 st170 hQ170
        subst l170 y170 z170
        obtain ⟨h170, e170⟩ : ∃ z, T170.heap = z := ⟨_, rfl⟩
        rw [e170] at hQ170
        obtain ⟨rfl, N170q, hh170⟩ := hQ170
        have N172 := Fr.app N159 N170q
        have e170' : T170.heap = h157 := e170.trans hh170
        obtain ⟨cq173, kq173, q173a, q173b, q173c⟩ := isOf hZ e170' g157_0
        obtain ⟨_, _, ⟨T173, L173, k173, n173⟩, -, X173, ⟨Lc173, hQ173, l173, y173, z173⟩, st173⟩ := X170.interfaceBack hx (xi := (⟨"java/util/List", "get", "(I)Ljava/lang/Object;"⟩ : MethodName)) (y := (⟨"java/util/ArrayList", "get", "(I)Ljava/lang/Object;"⟩ : MethodName)) hown (mvT hZ (own_w hw 160 rfl)) (mvT hZ (own_w hw 161 rfl)) (mvT hZ (own_w hw 162 rfl)) (mvT hZ (own_w hw 163 rfl)) (mvT hZ (own_w hw 164 rfl)) (mvT hZ (own_w hw 165 rfl)) (mvT hZ (own_w hw 166 rfl)) (mvT hZ (own_w hw 124 rfl)) (by decide) (backOf (W := 0) (rmget0_ l Z a0 hw [] nb2_157 nnnnnb8_2_3_9_98_157 k8_2_3_9_98_157 nb15_157 nb121_157 h157 n0 f171 g157_0 g157_2 g157_3 g157_12) hZ (own_w hw 167 rfl) (own_w hw 69 rfl) (by decide) (by decide)) q173a q173b q173c (g := (mkF m 176 #[lvI p0_, lvI p1_, lvI p2_, lvI p3_, lvI p4_, lvI i0_, lvI i1_, lvI i2_, lvI i3_, lvJ ((i0_.toInt64) + (i1_.toInt64)), .second, lvJ ((i2_.toInt64) + (i3_.toInt64)), .second, lvI (0 : Int32), lvJ (1 : Int64), .second, lvR b27, lvR b37, lvR b53, lvR nb2_157, .unset, .unset, .unset, .unset, .unset, .unset, .unset, .unset, .unset, .unset, .unset, .unset, .unset, .unset, .unset, .unset, .unset, .unset, .unset] [(.int (0 : Int32)), (.ref nb2_157)])) rfl (by rw [hml]; rfl) (Steps.refl _) (argsL := [(.int (0 : Int32))]) (rest := []) (lenOf pd_13 rfl) rfl (by show 2 * 0 + _ ≤ _; exact Nat.le_of_eq rfl) (hb hby at_176) (fun _ _ => ⟨rfl, e170', (by decide : 14 + 0 ≤ _), (by decide : 54 + 0 ≤ _)⟩)
        dsimp only [Pt.U, Pt.locs, Pt.cells, Pt.slots] at X173 l173 y173 z173 st173 hQ173
        subst l173 y173 z173
        obtain ⟨h173, e173⟩ : ∃ z, T173.heap = z := ⟨_, rfl⟩
        rw [e173] at hQ173
        obtain ⟨rfl, N173q, hh173⟩ := hQ173
        have N174 := Fr.app N172 N173q
        have e173' : T173.heap = h157 := e173.trans hh173
        obtain ⟨T175, X175, e175, st175⟩ := castY X173 hx hZ hown (own_w hw 181 rfl) e173' (Ins.self g157_4) (g := (mkF m 181 #[lvI p0_, lvI p1_, lvI p2_, lvI p3_, lvI p4_, lvI i0_, lvI i1_, lvI i2_, lvI i3_, lvJ ((i0_.toInt64) + (i1_.toInt64)), .second, lvJ ((i2_.toInt64) + (i3_.toInt64)), .second, lvI (0 : Int32), lvJ (1 : Int64), .second, lvR b27, lvR b37, lvR b53, lvR nb2_157, .unset, .unset, .unset, .unset, .unset, .unset, .unset, .unset, .unset, .unset, .unset, .unset, .unset, .unset, .unset, .unset, .unset, .unset, .unset] [(.ref nb15_157)])) rfl rfl (hb hby at_181)
        obtain ⟨cq176, kq176, q176a, q176b, q176c⟩ := isOf hZ e175 g157_0
        obtain ⟨_, _, ⟨T176, L176, k176, n176⟩, -, X176, ⟨Lc176, hQ176, l176, y176, z176⟩, st176⟩ := X175.interfaceBack hx (xi := (⟨"java/util/List", "get", "(I)Ljava/lang/Object;"⟩ : MethodName)) (y := (⟨"java/util/ArrayList", "get", "(I)Ljava/lang/Object;"⟩ : MethodName)) hown (mvT hZ (own_w hw 160 rfl)) (mvT hZ (own_w hw 161 rfl)) (mvT hZ (own_w hw 162 rfl)) (mvT hZ (own_w hw 163 rfl)) (mvT hZ (own_w hw 164 rfl)) (mvT hZ (own_w hw 165 rfl)) (mvT hZ (own_w hw 166 rfl)) (mvT hZ (own_w hw 124 rfl)) (by decide) (backOf (W := 0) (rmget1_ l Z a0 hw [] nb2_157 nnnnnb8_2_3_9_98_157 k8_2_3_9_98_157 nb15_157 nb121_157 h157 n0 f171 g157_0 g157_2 g157_3 g157_12) hZ (own_w hw 167 rfl) (own_w hw 69 rfl) (by decide) (by decide)) q176a q176b q176c (g := (mkF m 189 #[lvI p0_, lvI p1_, lvI p2_, lvI p3_, lvI p4_, lvI i0_, lvI i1_, lvI i2_, lvI i3_, lvJ ((i0_.toInt64) + (i1_.toInt64)), .second, lvJ ((i2_.toInt64) + (i3_.toInt64)), .second, lvI (0 : Int32), lvJ (1 : Int64), .second, lvR b27, lvR b37, lvR b53, lvR nb2_157, lvR nb15_157, .unset, .unset, .unset, .unset, .unset, .unset, .unset, .unset, .unset, .unset, .unset, .unset, .unset, .unset, .unset, .unset, .unset, .unset] [(.int (1 : Int32)), (.ref nb2_157)])) rfl (by rw [hml]; rfl) (Steps.refl _) (argsL := [(.int (1 : Int32))]) (rest := []) (lenOf pd_13 rfl) rfl (by show 2 * 0 + _ ≤ _; exact Nat.le_of_eq rfl) (hb hby at_189) (fun _ _ => ⟨rfl, e175, (by decide : 14 + 0 ≤ _), (by decide : 54 + 0 ≤ _)⟩)
        dsimp only [Pt.U, Pt.locs, Pt.cells, Pt.slots] at X176 l176 y176 z176 st176 hQ176
        subst l176 y176 z176
        obtain ⟨h176, e176⟩ : ∃ z, T176.heap = z := ⟨_, rfl⟩
        rw [e176] at hQ176
        obtain ⟨rfl, N176q, hh176⟩ := hQ176
        have N177 := Fr.app N174 N176q
        have e176' : T176.heap = h157 := e176.trans hh176
        obtain ⟨T178, X178, e178, st178⟩ := castY X176 hx hZ hown (own_w hw 181 rfl) e176' (Ins.self g157_14) (g := (mkF m 194 #[lvI p0_, lvI p1_, lvI p2_, lvI p3_, lvI p4_, lvI i0_, lvI i1_, lvI i2_, lvI i3_, lvJ ((i0_.toInt64) + (i1_.toInt64)), .second, lvJ ((i2_.toInt64) + (i3_.toInt64)), .second, lvI (0 : Int32), lvJ (1 : Int64), .second, lvR b27, lvR b37, lvR b53, lvR nb2_157, lvR nb15_157, .unset, .unset, .unset, .unset, .unset, .unset, .unset, .unset, .unset, .unset, .unset, .unset, .unset, .unset, .unset, .unset, .unset, .unset] [(.ref nb121_157)])) rfl rfl (hb hby at_194)
        obtain ⟨_, _, ⟨T179, L179, k179, n179⟩, -, X179, ⟨Lc179, hQ179, l179, y179, z179⟩, st179⟩ := Jvm.LawKit.callS X178 hx (y := (⟨"java/lang/Math", "max", "(II)I"⟩ : MethodName)) hown (mvT hZ (own_w hw 183 rfl)) (mvT hZ (own_w hw 146 rfl)) (mvT hZ (own_w hw 147 rfl)) (mvT hZ (own_w hw 148 rfl)) (by decide) (backOf (W := 0) (rmMax l Z a0 hw [] i0_ i1_ lo_ hi_ h157 n0 f171 hS) hZ (own_w hw 148 rfl) (own_w hw 147 rfl) (by decide) (by decide)) (g := (mkF m 203 #[lvI p0_, lvI p1_, lvI p2_, lvI p3_, lvI p4_, lvI i0_, lvI i1_, lvI i2_, lvI i3_, lvJ ((i0_.toInt64) + (i1_.toInt64)), .second, lvJ ((i2_.toInt64) + (i3_.toInt64)), .second, lvI (0 : Int32), lvJ (1 : Int64), .second, lvR b27, lvR b37, lvR b53, lvR nb2_157, lvR nb15_157, lvR nb121_157, .unset, .unset, .unset, .unset, .unset, .unset, .unset, .unset, .unset, .unset, .unset, .unset, .unset, .unset, .unset, .unset, .unset] [(.int i1_), (.int i0_)])) rfl (by rw [hml]; rfl) (argsL := [(.int i0_), (.int i1_)]) (rest := []) (lenOf pd_7 rfl) rfl (by show 2 * 0 + _ ≤ _; exact Nat.le_of_eq rfl) (hb hby at_203) (fun _ _ => ⟨rfl, e178, (by decide : 14 + 0 ≤ _), (by decide : 54 + 0 ≤ _)⟩)
        dsimp only [Pt.U, Pt.locs, Pt.cells, Pt.slots] at X179 l179 y179 z179 st179 hQ179
        subst l179 y179 z179
        obtain ⟨h179, e179⟩ : ∃ z, T179.heap = z := ⟨_, rfl⟩
        rw [e179] at hQ179
        obtain ⟨rfl, N179q, hh179⟩ := hQ179
        have N180 := Fr.app N177 N179q
        have e179' : T179.heap = h157 := e179.trans hh179
        have hn181 : Jvm.Free.Fl.NoNaN64 (FP.ddiv (FP.i2d i0_) (FP.l2d (hi_.toInt64))) := own_l1 HM hS
        have pre182 : ∀ t, own_S p e below m T179 216 #[lvI p0_, lvI p1_, lvI p2_, lvI p3_, lvI p4_, lvI i0_, lvI i1_, lvI i2_, lvI i3_, lvJ ((i0_.toInt64) + (i1_.toInt64)), .second, lvJ ((i2_.toInt64) + (i3_.toInt64)), .second, lvI (0 : Int32), lvJ (1 : Int64), .second, lvR b27, lvR b37, lvR b53, lvR nb2_157, lvR nb15_157, lvR nb121_157, lvJ (hi_.toInt64), .second, .unset, .unset, .unset, .unset, .unset, .unset, .unset, .unset, .unset, .unset, .unset, .unset, .unset, .unset, .unset] [(.double (FP.ddiv (FP.i2d i0_) (FP.l2d (hi_.toInt64))))] t → G t := by
          intro t kt
          refine pre143 t ?_
          show own_S p e below m T103 139 #[lvI p0_, lvI p1_, lvI p2_, lvI p3_, lvI p4_, lvI i0_, lvI i1_, lvI i2_, lvI i3_, lvJ ((i0_.toInt64) + (i1_.toInt64)), .second, lvJ ((i2_.toInt64) + (i3_.toInt64)), .second, lvI (0 : Int32), lvJ (1 : Int64), .second, lvR b27, lvR b37, lvR b53, .unset, .unset, .unset, .unset, .unset, .unset, .unset, .unset, .unset, .unset, .unset, .unset, .unset, .unset, .unset, .unset, .unset, .unset, .unset, .unset] [] _
          refine XS.iload X103.here hx rfl (hb hby at_139) rfl ?_
          show own_S p e below m T103 141 #[lvI p0_, lvI p1_, lvI p2_, lvI p3_, lvI p4_, lvI i0_, lvI i1_, lvI i2_, lvI i3_, lvJ ((i0_.toInt64) + (i1_.toInt64)), .second, lvJ ((i2_.toInt64) + (i3_.toInt64)), .second, lvI (0 : Int32), lvJ (1 : Int64), .second, lvR b27, lvR b37, lvR b53, .unset, .unset, .unset, .unset, .unset, .unset, .unset, .unset, .unset, .unset, .unset, .unset, .unset, .unset, .unset, .unset, .unset, .unset, .unset, .unset] [(.int (0 : Int32))] _
          refine XS.ifYes X103.here hx rfl (pc0 := 141) (pc' := 153) rfl (hb hby at_141) rfl ((if0 _ _).trans (teq (by decide : (0 : Int32) = (0 : Int32))).1) (by decide) (by decide) ?_
          refine XS.aload X103.here hx rfl (hb hby at_153) rfl rfl ?_
          show own_S p e below m T103 155 #[lvI p0_, lvI p1_, lvI p2_, lvI p3_, lvI p4_, lvI i0_, lvI i1_, lvI i2_, lvI i3_, lvJ ((i0_.toInt64) + (i1_.toInt64)), .second, lvJ ((i2_.toInt64) + (i3_.toInt64)), .second, lvI (0 : Int32), lvJ (1 : Int64), .second, lvR b27, lvR b37, lvR b53, .unset, .unset, .unset, .unset, .unset, .unset, .unset, .unset, .unset, .unset, .unset, .unset, .unset, .unset, .unset, .unset, .unset, .unset, .unset, .unset] [(.ref b53)] _
          refine st157.trans ?_
          refine XS.astore X157.here hx rfl (hb hby at_158) rfl rfl (l' := #[lvI p0_, lvI p1_, lvI p2_, lvI p3_, lvI p4_, lvI i0_, lvI i1_, lvI i2_, lvI i3_, lvJ ((i0_.toInt64) + (i1_.toInt64)), .second, lvJ ((i2_.toInt64) + (i3_.toInt64)), .second, lvI (0 : Int32), lvJ (1 : Int64), .second, lvR b27, lvR b37, lvR b53, lvR nb2_157, .unset, .unset, .unset, .unset, .unset, .unset, .unset, .unset, .unset, .unset, .unset, .unset, .unset, .unset, .unset, .unset, .unset, .unset, .unset]) rfl ?_
          refine XS.aload X157.here hx rfl (hb hby at_160) rfl rfl ?_
          show own_S p e below m T157 162 #[lvI p0_, lvI p1_, lvI p2_, lvI p3_, lvI p4_, lvI i0_, lvI i1_, lvI i2_, lvI i3_, lvJ ((i0_.toInt64) + (i1_.toInt64)), .second, lvJ ((i2_.toInt64) + (i3_.toInt64)), .second, lvI (0 : Int32), lvJ (1 : Int64), .second, lvR b27, lvR b37, lvR b53, lvR nb2_157, .unset, .unset, .unset, .unset, .unset, .unset, .unset, .unset, .unset, .unset, .unset, .unset, .unset, .unset, .unset, .unset, .unset, .unset, .unset] [(.ref nb2_157)] _
          refine st170.trans ?_
          refine XS.iconst X170.here hx rfl (hb hby at_167) ?_
          show own_S p e below m T170 168 #[lvI p0_, lvI p1_, lvI p2_, lvI p3_, lvI p4_, lvI i0_, lvI i1_, lvI i2_, lvI i3_, lvJ ((i0_.toInt64) + (i1_.toInt64)), .second, lvJ ((i2_.toInt64) + (i3_.toInt64)), .second, lvI (0 : Int32), lvJ (1 : Int64), .second, lvR b27, lvR b37, lvR b53, lvR nb2_157, .unset, .unset, .unset, .unset, .unset, .unset, .unset, .unset, .unset, .unset, .unset, .unset, .unset, .unset, .unset, .unset, .unset, .unset, .unset] [(.int (2 : Int32)), (.int (2 : Int32))] _
          refine XS.icmpYes X170.here hx rfl (pc0 := 168) (pc' := 173) rfl (hb hby at_168) rfl (teq (by decide : (2 : Int32) = (2 : Int32))).1 (by decide) (by decide) ?_
          refine XS.aload X170.here hx rfl (hb hby at_173) rfl rfl ?_
          refine XS.iconst X170.here hx rfl (hb hby at_175) ?_
          show own_S p e below m T170 176 #[lvI p0_, lvI p1_, lvI p2_, lvI p3_, lvI p4_, lvI i0_, lvI i1_, lvI i2_, lvI i3_, lvJ ((i0_.toInt64) + (i1_.toInt64)), .second, lvJ ((i2_.toInt64) + (i3_.toInt64)), .second, lvI (0 : Int32), lvJ (1 : Int64), .second, lvR b27, lvR b37, lvR b53, lvR nb2_157, .unset, .unset, .unset, .unset, .unset, .unset, .unset, .unset, .unset, .unset, .unset, .unset, .unset, .unset, .unset, .unset, .unset, .unset, .unset] [(.int (0 : Int32)), (.ref nb2_157)] _
          refine st173.trans ?_
          show own_S p e below m T173 181 #[lvI p0_, lvI p1_, lvI p2_, lvI p3_, lvI p4_, lvI i0_, lvI i1_, lvI i2_, lvI i3_, lvJ ((i0_.toInt64) + (i1_.toInt64)), .second, lvJ ((i2_.toInt64) + (i3_.toInt64)), .second, lvI (0 : Int32), lvJ (1 : Int64), .second, lvR b27, lvR b37, lvR b53, lvR nb2_157, .unset, .unset, .unset, .unset, .unset, .unset, .unset, .unset, .unset, .unset, .unset, .unset, .unset, .unset, .unset, .unset, .unset, .unset, .unset] [(.ref nb15_157)] _
          refine st175 _ ?_
          refine XS.astore X175.here hx rfl (hb hby at_184) rfl rfl (l' := #[lvI p0_, lvI p1_, lvI p2_, lvI p3_, lvI p4_, lvI i0_, lvI i1_, lvI i2_, lvI i3_, lvJ ((i0_.toInt64) + (i1_.toInt64)), .second, lvJ ((i2_.toInt64) + (i3_.toInt64)), .second, lvI (0 : Int32), lvJ (1 : Int64), .second, lvR b27, lvR b37, lvR b53, lvR nb2_157, lvR nb15_157, .unset, .unset, .unset, .unset, .unset, .unset, .unset, .unset, .unset, .unset, .unset, .unset, .unset, .unset, .unset, .unset, .unset, .unset]) rfl ?_
          refine XS.aload X175.here hx rfl (hb hby at_186) rfl rfl ?_
          refine XS.iconst X175.here hx rfl (hb hby at_188) ?_
          show own_S p e below m T175 189 #[lvI p0_, lvI p1_, lvI p2_, lvI p3_, lvI p4_, lvI i0_, lvI i1_, lvI i2_, lvI i3_, lvJ ((i0_.toInt64) + (i1_.toInt64)), .second, lvJ ((i2_.toInt64) + (i3_.toInt64)), .second, lvI (0 : Int32), lvJ (1 : Int64), .second, lvR b27, lvR b37, lvR b53, lvR nb2_157, lvR nb15_157, .unset, .unset, .unset, .unset, .unset, .unset, .unset, .unset, .unset, .unset, .unset, .unset, .unset, .unset, .unset, .unset, .unset, .unset] [(.int (1 : Int32)), (.ref nb2_157)] _
          refine st176.trans ?_
          show own_S p e below m T176 194 #[lvI p0_, lvI p1_, lvI p2_, lvI p3_, lvI p4_, lvI i0_, lvI i1_, lvI i2_, lvI i3_, lvJ ((i0_.toInt64) + (i1_.toInt64)), .second, lvJ ((i2_.toInt64) + (i3_.toInt64)), .second, lvI (0 : Int32), lvJ (1 : Int64), .second, lvR b27, lvR b37, lvR b53, lvR nb2_157, lvR nb15_157, .unset, .unset, .unset, .unset, .unset, .unset, .unset, .unset, .unset, .unset, .unset, .unset, .unset, .unset, .unset, .unset, .unset, .unset] [(.ref nb121_157)] _
          refine st178 _ ?_
          refine XS.astore X178.here hx rfl (hb hby at_197) rfl rfl (l' := #[lvI p0_, lvI p1_, lvI p2_, lvI p3_, lvI p4_, lvI i0_, lvI i1_, lvI i2_, lvI i3_, lvJ ((i0_.toInt64) + (i1_.toInt64)), .second, lvJ ((i2_.toInt64) + (i3_.toInt64)), .second, lvI (0 : Int32), lvJ (1 : Int64), .second, lvR b27, lvR b37, lvR b53, lvR nb2_157, lvR nb15_157, lvR nb121_157, .unset, .unset, .unset, .unset, .unset, .unset, .unset, .unset, .unset, .unset, .unset, .unset, .unset, .unset, .unset, .unset, .unset]) rfl ?_
          refine XS.iload X178.here hx rfl (hb hby at_199) rfl ?_
          refine XS.iload X178.here hx rfl (hb hby at_201) rfl ?_
          show own_S p e below m T178 203 #[lvI p0_, lvI p1_, lvI p2_, lvI p3_, lvI p4_, lvI i0_, lvI i1_, lvI i2_, lvI i3_, lvJ ((i0_.toInt64) + (i1_.toInt64)), .second, lvJ ((i2_.toInt64) + (i3_.toInt64)), .second, lvI (0 : Int32), lvJ (1 : Int64), .second, lvR b27, lvR b37, lvR b53, lvR nb2_157, lvR nb15_157, lvR nb121_157, .unset, .unset, .unset, .unset, .unset, .unset, .unset, .unset, .unset, .unset, .unset, .unset, .unset, .unset, .unset, .unset, .unset] [(.int i1_), (.int i0_)] _
          refine st179 _ ?_
          refine XS.i2l X179.here hx rfl (hb hby at_206) rfl ?_
          refine XS.lstore X179.here hx rfl (hb hby at_207) rfl (l' := #[lvI p0_, lvI p1_, lvI p2_, lvI p3_, lvI p4_, lvI i0_, lvI i1_, lvI i2_, lvI i3_, lvJ ((i0_.toInt64) + (i1_.toInt64)), .second, lvJ ((i2_.toInt64) + (i3_.toInt64)), .second, lvI (0 : Int32), lvJ (1 : Int64), .second, lvR b27, lvR b37, lvR b53, lvR nb2_157, lvR nb15_157, lvR nb121_157, lvJ (hi_.toInt64), .second, .unset, .unset, .unset, .unset, .unset, .unset, .unset, .unset, .unset, .unset, .unset, .unset, .unset, .unset, .unset]) rfl ?_
          refine XS.iload X179.here hx rfl (hb hby at_209) rfl ?_
          refine XS.i2dS X179.here hx rfl (hb hby at_211) rfl rfl ?_
          refine XS.lload X179.here hx rfl (hb hby at_212) rfl ?_
          refine XS.l2dS X179.here hx rfl (hb hby at_214) rfl rfl ?_
          refine XS.ddivS X179.here hx rfl (hb hby at_215) rfl hn181 rfl ?_
          exact kt
        obtain ⟨l1_, el1⟩ : ∃ z, z = (FP.ddiv (FP.i2d i0_) (FP.l2d (hi_.toInt64))) := ⟨_, rfl⟩
        have pre183 : ∀ t, own_S p e below m T179 216 #[lvI p0_, lvI p1_, lvI p2_, lvI p3_, lvI p4_, lvI i0_, lvI i1_, lvI i2_, lvI i3_, lvJ ((i0_.toInt64) + (i1_.toInt64)), .second, lvJ ((i2_.toInt64) + (i3_.toInt64)), .second, lvI (0 : Int32), lvJ (1 : Int64), .second, lvR b27, lvR b37, lvR b53, lvR nb2_157, lvR nb15_157, lvR nb121_157, lvJ (hi_.toInt64), .second, .unset, .unset, .unset, .unset, .unset, .unset, .unset, .unset, .unset, .unset, .unset, .unset, .unset, .unset, .unset] [(.double l1_)] t → G t := fun t kt => pre182 t (by rw [← el1]; exact kt)
        have hn184 : Jvm.Free.Fl.NoNaN64 (FP.ddiv (FP.i2d i0_) (FP.l2d ((i0_.toInt64) + (i1_.toInt64)))) := own_l2 HM
        have pre185 : ∀ t, own_S p e below m T179 225 #[lvI p0_, lvI p1_, lvI p2_, lvI p3_, lvI p4_, lvI i0_, lvI i1_, lvI i2_, lvI i3_, lvJ ((i0_.toInt64) + (i1_.toInt64)), .second, lvJ ((i2_.toInt64) + (i3_.toInt64)), .second, lvI (0 : Int32), lvJ (1 : Int64), .second, lvR b27, lvR b37, lvR b53, lvR nb2_157, lvR nb15_157, lvR nb121_157, lvJ (hi_.toInt64), .second, lvD l1_, .second, .unset, .unset, .unset, .unset, .unset, .unset, .unset, .unset, .unset, .unset, .unset, .unset, .unset] [(.double (FP.ddiv (FP.i2d i0_) (FP.l2d ((i0_.toInt64) + (i1_.toInt64)))))] t → G t := by
          intro t kt
          refine pre183 t ?_
          show own_S p e below m T179 216 #[lvI p0_, lvI p1_, lvI p2_, lvI p3_, lvI p4_, lvI i0_, lvI i1_, lvI i2_, lvI i3_, lvJ ((i0_.toInt64) + (i1_.toInt64)), .second, lvJ ((i2_.toInt64) + (i3_.toInt64)), .second, lvI (0 : Int32), lvJ (1 : Int64), .second, lvR b27, lvR b37, lvR b53, lvR nb2_157, lvR nb15_157, lvR nb121_157, lvJ (hi_.toInt64), .second, .unset, .unset, .unset, .unset, .unset, .unset, .unset, .unset, .unset, .unset, .unset, .unset, .unset, .unset, .unset] [(.double l1_)] _
          refine XS.dstore X179.here hx rfl (hb hby at_216) rfl (l' := #[lvI p0_, lvI p1_, lvI p2_, lvI p3_, lvI p4_, lvI i0_, lvI i1_, lvI i2_, lvI i3_, lvJ ((i0_.toInt64) + (i1_.toInt64)), .second, lvJ ((i2_.toInt64) + (i3_.toInt64)), .second, lvI (0 : Int32), lvJ (1 : Int64), .second, lvR b27, lvR b37, lvR b53, lvR nb2_157, lvR nb15_157, lvR nb121_157, lvJ (hi_.toInt64), .second, lvD l1_, .second, .unset, .unset, .unset, .unset, .unset, .unset, .unset, .unset, .unset, .unset, .unset, .unset, .unset]) rfl ?_
          refine XS.iload X179.here hx rfl (hb hby at_218) rfl ?_
          refine XS.i2dS X179.here hx rfl (hb hby at_220) rfl rfl ?_
          refine XS.lload X179.here hx rfl (hb hby at_221) rfl ?_
          refine XS.l2dS X179.here hx rfl (hb hby at_223) rfl rfl ?_
          refine XS.ddivS X179.here hx rfl (hb hby at_224) rfl hn184 rfl ?_
          exact kt
        obtain ⟨l2_, el2⟩ : ∃ z, z = (FP.ddiv (FP.i2d i0_) (FP.l2d ((i0_.toInt64) + (i1_.toInt64)))) := ⟨_, rfl⟩
        have pre186 : ∀ t, own_S p e below m T179 225 #[lvI p0_, lvI p1_, lvI p2_, lvI p3_, lvI p4_, lvI i0_, lvI i1_, lvI i2_, lvI i3_, lvJ ((i0_.toInt64) + (i1_.toInt64)), .second, lvJ ((i2_.toInt64) + (i3_.toInt64)), .second, lvI (0 : Int32), lvJ (1 : Int64), .second, lvR b27, lvR b37, lvR b53, lvR nb2_157, lvR nb15_157, lvR nb121_157, lvJ (hi_.toInt64), .second, lvD l1_, .second, .unset, .unset, .unset, .unset, .unset, .unset, .unset, .unset, .unset, .unset, .unset, .unset, .unset] [(.double l2_)] t → G t := fun t kt => pre185 t (by rw [← el2]; exact kt)
        have pre187 : ∀ t, own_S p e below m T179 227 #[lvI p0_, lvI p1_, lvI p2_, lvI p3_, lvI p4_, lvI i0_, lvI i1_, lvI i2_, lvI i3_, lvJ ((i0_.toInt64) + (i1_.toInt64)), .second, lvJ ((i2_.toInt64) + (i3_.toInt64)), .second, lvI (0 : Int32), lvJ (1 : Int64), .second, lvR b27, lvR b37, lvR b53, lvR nb2_157, lvR nb15_157, lvR nb121_157, lvJ (hi_.toInt64), .second, lvD l1_, .second, lvD l2_, .second, .unset, .unset, .unset, .unset, .unset, .unset, .unset, .unset, .unset, .unset, .unset] [] t → G t := by
          intro t kt
          refine pre186 t ?_
          show own_S p e below m T179 225 #[lvI p0_, lvI p1_, lvI p2_, lvI p3_, lvI p4_, lvI i0_, lvI i1_, lvI i2_, lvI i3_, lvJ ((i0_.toInt64) + (i1_.toInt64)), .second, lvJ ((i2_.toInt64) + (i3_.toInt64)), .second, lvI (0 : Int32), lvJ (1 : Int64), .second, lvR b27, lvR b37, lvR b53, lvR nb2_157, lvR nb15_157, lvR nb121_157, lvJ (hi_.toInt64), .second, lvD l1_, .second, .unset, .unset, .unset, .unset, .unset, .unset, .unset, .unset, .unset, .unset, .unset, .unset, .unset] [(.double l2_)] _
          refine XS.dstore X179.here hx rfl (hb hby at_225) rfl (l' := #[lvI p0_, lvI p1_, lvI p2_, lvI p3_, lvI p4_, lvI i0_, lvI i1_, lvI i2_, lvI i3_, lvJ ((i0_.toInt64) + (i1_.toInt64)), .second, lvJ ((i2_.toInt64) + (i3_.toInt64)), .second, lvI (0 : Int32), lvJ (1 : Int64), .second, lvR b27, lvR b37, lvR b53, lvR nb2_157, lvR nb15_157, lvR nb121_157, lvJ (hi_.toInt64), .second, lvD l1_, .second, lvD l2_, .second, .unset, .unset, .unset, .unset, .unset, .unset, .unset, .unset, .unset, .unset, .unset]) rfl ?_
          exact kt
        obtain ⟨pd1, hd1⟩ := own_pd_ex i0_
        have pre188 : ∀ t, own_S p e below m T179 237 #[lvI p0_, lvI p1_, lvI p2_, lvI p3_, lvI p4_, lvI i0_, lvI i1_, lvI i2_, lvI i3_, lvJ ((i0_.toInt64) + (i1_.toInt64)), .second, lvJ ((i2_.toInt64) + (i3_.toInt64)), .second, lvI (0 : Int32), lvJ (1 : Int64), .second, lvR b27, lvR b37, lvR b53, lvR nb2_157, lvR nb15_157, lvR nb121_157, lvJ (hi_.toInt64), .second, lvD l1_, .second, lvD l2_, .second, .unset, .unset, .unset, .unset, .unset, .unset, .unset, .unset, .unset, .unset, .unset] [(.double pd1)] t → G t := by
          intro t kt
          rcases hd1 with ⟨hj189_0, ej189_0⟩ | ⟨hj190_0, ej190_0⟩
          · have pre191 : ∀ t, own_S p e below m T179 237 #[lvI p0_, lvI p1_, lvI p2_, lvI p3_, lvI p4_, lvI i0_, lvI i1_, lvI i2_, lvI i3_, lvJ ((i0_.toInt64) + (i1_.toInt64)), .second, lvJ ((i2_.toInt64) + (i3_.toInt64)), .second, lvI (0 : Int32), lvJ (1 : Int64), .second, lvR b27, lvR b37, lvR b53, lvR nb2_157, lvR nb15_157, lvR nb121_157, lvJ (hi_.toInt64), .second, lvD l1_, .second, lvD l2_, .second, .unset, .unset, .unset, .unset, .unset, .unset, .unset, .unset, .unset, .unset, .unset] [(.double (4607182418800017408 : UInt64))] t → G t := by
              intro t kt
              refine pre187 t ?_
              show own_S p e below m T179 227 #[lvI p0_, lvI p1_, lvI p2_, lvI p3_, lvI p4_, lvI i0_, lvI i1_, lvI i2_, lvI i3_, lvJ ((i0_.toInt64) + (i1_.toInt64)), .second, lvJ ((i2_.toInt64) + (i3_.toInt64)), .second, lvI (0 : Int32), lvJ (1 : Int64), .second, lvR b27, lvR b37, lvR b53, lvR nb2_157, lvR nb15_157, lvR nb121_157, lvJ (hi_.toInt64), .second, lvD l1_, .second, lvD l2_, .second, .unset, .unset, .unset, .unset, .unset, .unset, .unset, .unset, .unset, .unset, .unset] [] _
              refine XS.iload X179.here hx rfl (hb hby at_227) rfl ?_
              show own_S p e below m T179 229 #[lvI p0_, lvI p1_, lvI p2_, lvI p3_, lvI p4_, lvI i0_, lvI i1_, lvI i2_, lvI i3_, lvJ ((i0_.toInt64) + (i1_.toInt64)), .second, lvJ ((i2_.toInt64) + (i3_.toInt64)), .second, lvI (0 : Int32), lvJ (1 : Int64), .second, lvR b27, lvR b37, lvR b53, lvR nb2_157, lvR nb15_157, lvR nb121_157, lvJ (hi_.toInt64), .second, lvD l1_, .second, lvD l2_, .second, .unset, .unset, .unset, .unset, .unset, .unset, .unset, .unset, .unset, .unset, .unset] [(.int i0_)] _
              refine XS.ifNo X179.here hx rfl (hb hby at_229) rfl ((if0 _ _).trans (tlt hj189_0).2.2.2) ?_
              refine XS.dconst1 X179.here hx rfl (hb hby at_232) rfl ?_
              refine XS.goto X179.here hx rfl (pc0 := 233) (pc' := 237) rfl (hb hby at_233) (by decide) (by decide) ?_
              exact kt
            exact pre191 t (by rw [ej189_0] at kt; exact kt)
          · have pre192 : ∀ t, own_S p e below m T179 237 #[lvI p0_, lvI p1_, lvI p2_, lvI p3_, lvI p4_, lvI i0_, lvI i1_, lvI i2_, lvI i3_, lvJ ((i0_.toInt64) + (i1_.toInt64)), .second, lvJ ((i2_.toInt64) + (i3_.toInt64)), .second, lvI (0 : Int32), lvJ (1 : Int64), .second, lvR b27, lvR b37, lvR b53, lvR nb2_157, lvR nb15_157, lvR nb121_157, lvJ (hi_.toInt64), .second, lvD l1_, .second, lvD l2_, .second, .unset, .unset, .unset, .unset, .unset, .unset, .unset, .unset, .unset, .unset, .unset] [(.double (0 : UInt64))] t → G t := by
              intro t kt
              refine pre187 t ?_
              show own_S p e below m T179 227 #[lvI p0_, lvI p1_, lvI p2_, lvI p3_, lvI p4_, lvI i0_, lvI i1_, lvI i2_, lvI i3_, lvJ ((i0_.toInt64) + (i1_.toInt64)), .second, lvJ ((i2_.toInt64) + (i3_.toInt64)), .second, lvI (0 : Int32), lvJ (1 : Int64), .second, lvR b27, lvR b37, lvR b53, lvR nb2_157, lvR nb15_157, lvR nb121_157, lvJ (hi_.toInt64), .second, lvD l1_, .second, lvD l2_, .second, .unset, .unset, .unset, .unset, .unset, .unset, .unset, .unset, .unset, .unset, .unset] [] _
              refine XS.iload X179.here hx rfl (hb hby at_227) rfl ?_
              show own_S p e below m T179 229 #[lvI p0_, lvI p1_, lvI p2_, lvI p3_, lvI p4_, lvI i0_, lvI i1_, lvI i2_, lvI i3_, lvJ ((i0_.toInt64) + (i1_.toInt64)), .second, lvJ ((i2_.toInt64) + (i3_.toInt64)), .second, lvI (0 : Int32), lvJ (1 : Int64), .second, lvR b27, lvR b37, lvR b53, lvR nb2_157, lvR nb15_157, lvR nb121_157, lvJ (hi_.toInt64), .second, lvD l1_, .second, lvD l2_, .second, .unset, .unset, .unset, .unset, .unset, .unset, .unset, .unset, .unset, .unset, .unset] [(.int i0_)] _
              refine XS.ifYes X179.here hx rfl (pc0 := 229) (pc' := 236) rfl (hb hby at_229) rfl ((if0 _ _).trans (flt hj190_0).2.2.2) (by decide) (by decide) ?_
              refine XS.dconst0 X179.here hx rfl (hb hby at_236) rfl ?_
              exact kt
            exact pre192 t (by rw [ej190_0] at kt; exact kt)
        have pre193 : ∀ t, own_S p e below m T179 239 #[lvI p0_, lvI p1_, lvI p2_, lvI p3_, lvI p4_, lvI i0_, lvI i1_, lvI i2_, lvI i3_, lvJ ((i0_.toInt64) + (i1_.toInt64)), .second, lvJ ((i2_.toInt64) + (i3_.toInt64)), .second, lvI (0 : Int32), lvJ (1 : Int64), .second, lvR b27, lvR b37, lvR b53, lvR nb2_157, lvR nb15_157, lvR nb121_157, lvJ (hi_.toInt64), .second, lvD l1_, .second, lvD l2_, .second, lvD pd1, .second, .unset, .unset, .unset, .unset, .unset, .unset, .unset, .unset, .unset] [] t → G t := by
          intro t kt
          refine pre188 t ?_
          show own_S p e below m T179 237 #[lvI p0_, lvI p1_, lvI p2_, lvI p3_, lvI p4_, lvI i0_, lvI i1_, lvI i2_, lvI i3_, lvJ ((i0_.toInt64) + (i1_.toInt64)), .second, lvJ ((i2_.toInt64) + (i3_.toInt64)), .second, lvI (0 : Int32), lvJ (1 : Int64), .second, lvR b27, lvR b37, lvR b53, lvR nb2_157, lvR nb15_157, lvR nb121_157, lvJ (hi_.toInt64), .second, lvD l1_, .second, lvD l2_, .second, .unset, .unset, .unset, .unset, .unset, .unset, .unset, .unset, .unset, .unset, .unset] [(.double pd1)] _
          refine XS.dstore X179.here hx rfl (hb hby at_237) rfl (l' := #[lvI p0_, lvI p1_, lvI p2_, lvI p3_, lvI p4_, lvI i0_, lvI i1_, lvI i2_, lvI i3_, lvJ ((i0_.toInt64) + (i1_.toInt64)), .second, lvJ ((i2_.toInt64) + (i3_.toInt64)), .second, lvI (0 : Int32), lvJ (1 : Int64), .second, lvR b27, lvR b37, lvR b53, lvR nb2_157, lvR nb15_157, lvR nb121_157, lvJ (hi_.toInt64), .second, lvD l1_, .second, lvD l2_, .second, lvD pd1, .second, .unset, .unset, .unset, .unset, .unset, .unset, .unset, .unset, .unset]) rfl ?_
          exact kt
        obtain ⟨hd, pd2, hd2⟩ := own_pe_ex i0_ i1_
        have pre194 : ∀ t, own_S p e below m T179 285 #[lvI p0_, lvI p1_, lvI p2_, lvI p3_, lvI p4_, lvI i0_, lvI i1_, lvI i2_, lvI i3_, lvJ ((i0_.toInt64) + (i1_.toInt64)), .second, lvJ ((i2_.toInt64) + (i3_.toInt64)), .second, lvI (0 : Int32), lvJ (1 : Int64), .second, lvR b27, lvR b37, lvR b53, lvR nb2_157, lvR nb15_157, lvR nb121_157, lvJ (hi_.toInt64), .second, lvD l1_, .second, lvD l2_, .second, lvD pd1, .second, lvI hd, .unset, .unset, .unset, .unset, .unset, .unset, .unset, .unset] [(.double pd2)] t → G t := by
          intro t kt
          rcases hd2 with ⟨hj195_0, hj195_1, ej195_0, ej195_1⟩ | ⟨hj196_0, hj196_1, ej196_0, ej196_1⟩ | ⟨hj197_0, hj197_1, ej197_0, ej197_1⟩ | ⟨hj198_0, hj198_1, ej198_0, ej198_1⟩
          · have pre199 : ∀ t, own_S p e below m T179 285 #[lvI p0_, lvI p1_, lvI p2_, lvI p3_, lvI p4_, lvI i0_, lvI i1_, lvI i2_, lvI i3_, lvJ ((i0_.toInt64) + (i1_.toInt64)), .second, lvJ ((i2_.toInt64) + (i3_.toInt64)), .second, lvI (0 : Int32), lvJ (1 : Int64), .second, lvR b27, lvR b37, lvR b53, lvR nb2_157, lvR nb15_157, lvR nb121_157, lvJ (hi_.toInt64), .second, lvD l1_, .second, lvD l2_, .second, lvD pd1, .second, lvI (2 : Int32), .unset, .unset, .unset, .unset, .unset, .unset, .unset, .unset] [(.double (4607182418800017408 : UInt64))] t → G t := by
              intro t kt
              refine pre193 t ?_
              show own_S p e below m T179 239 #[lvI p0_, lvI p1_, lvI p2_, lvI p3_, lvI p4_, lvI i0_, lvI i1_, lvI i2_, lvI i3_, lvJ ((i0_.toInt64) + (i1_.toInt64)), .second, lvJ ((i2_.toInt64) + (i3_.toInt64)), .second, lvI (0 : Int32), lvJ (1 : Int64), .second, lvR b27, lvR b37, lvR b53, lvR nb2_157, lvR nb15_157, lvR nb121_157, lvJ (hi_.toInt64), .second, lvD l1_, .second, lvD l2_, .second, lvD pd1, .second, .unset, .unset, .unset, .unset, .unset, .unset, .unset, .unset, .unset] [] _
              refine XS.iload X179.here hx rfl (hb hby at_239) rfl ?_
              show own_S p e below m T179 241 #[lvI p0_, lvI p1_, lvI p2_, lvI p3_, lvI p4_, lvI i0_, lvI i1_, lvI i2_, lvI i3_, lvJ ((i0_.toInt64) + (i1_.toInt64)), .second, lvJ ((i2_.toInt64) + (i3_.toInt64)), .second, lvI (0 : Int32), lvJ (1 : Int64), .second, lvR b27, lvR b37, lvR b53, lvR nb2_157, lvR nb15_157, lvR nb121_157, lvJ (hi_.toInt64), .second, lvD l1_, .second, lvD l2_, .second, lvD pd1, .second, .unset, .unset, .unset, .unset, .unset, .unset, .unset, .unset, .unset] [(.int i0_)] _
              refine XS.ifNo X179.here hx rfl (hb hby at_241) rfl ((if0 _ _).trans (tlt hj195_0).2.2.2) ?_
              refine XS.iconst X179.here hx rfl (hb hby at_244) ?_
              refine XS.goto X179.here hx rfl (pc0 := 245) (pc' := 249) rfl (hb hby at_245) (by decide) (by decide) ?_
              refine XS.iload X179.here hx rfl (hb hby at_249) rfl ?_
              show own_S p e below m T179 251 #[lvI p0_, lvI p1_, lvI p2_, lvI p3_, lvI p4_, lvI i0_, lvI i1_, lvI i2_, lvI i3_, lvJ ((i0_.toInt64) + (i1_.toInt64)), .second, lvJ ((i2_.toInt64) + (i3_.toInt64)), .second, lvI (0 : Int32), lvJ (1 : Int64), .second, lvR b27, lvR b37, lvR b53, lvR nb2_157, lvR nb15_157, lvR nb121_157, lvJ (hi_.toInt64), .second, lvD l1_, .second, lvD l2_, .second, lvD pd1, .second, .unset, .unset, .unset, .unset, .unset, .unset, .unset, .unset, .unset] [(.int i1_), (.int (1 : Int32))] _
              refine XS.ifNo X179.here hx rfl (hb hby at_251) rfl ((if0 _ _).trans (tlt hj195_1).2.2.2) ?_
              refine XS.iconst X179.here hx rfl (hb hby at_254) ?_
              refine XS.goto X179.here hx rfl (pc0 := 255) (pc' := 259) rfl (hb hby at_255) (by decide) (by decide) ?_
              refine XS.iadd X179.here hx rfl (hb hby at_259) rfl ?_
              refine XS.istore X179.here hx rfl (hb hby at_260) rfl (l' := #[lvI p0_, lvI p1_, lvI p2_, lvI p3_, lvI p4_, lvI i0_, lvI i1_, lvI i2_, lvI i3_, lvJ ((i0_.toInt64) + (i1_.toInt64)), .second, lvJ ((i2_.toInt64) + (i3_.toInt64)), .second, lvI (0 : Int32), lvJ (1 : Int64), .second, lvR b27, lvR b37, lvR b53, lvR nb2_157, lvR nb15_157, lvR nb121_157, lvJ (hi_.toInt64), .second, lvD l1_, .second, lvD l2_, .second, lvD pd1, .second, lvI (2 : Int32), .unset, .unset, .unset, .unset, .unset, .unset, .unset, .unset]) rfl ?_
              refine XS.iload X179.here hx rfl (hb hby at_262) rfl ?_
              refine XS.iconst X179.here hx rfl (hb hby at_264) ?_
              show own_S p e below m T179 265 #[lvI p0_, lvI p1_, lvI p2_, lvI p3_, lvI p4_, lvI i0_, lvI i1_, lvI i2_, lvI i3_, lvJ ((i0_.toInt64) + (i1_.toInt64)), .second, lvJ ((i2_.toInt64) + (i3_.toInt64)), .second, lvI (0 : Int32), lvJ (1 : Int64), .second, lvR b27, lvR b37, lvR b53, lvR nb2_157, lvR nb15_157, lvR nb121_157, lvJ (hi_.toInt64), .second, lvD l1_, .second, lvD l2_, .second, lvD pd1, .second, lvI (2 : Int32), .unset, .unset, .unset, .unset, .unset, .unset, .unset, .unset] [(.int (2 : Int32)), (.int (2 : Int32))] _
              refine XS.icmpNo X179.here hx rfl (hb hby at_265) rfl (teq (by decide : (2 : Int32) = (2 : Int32))).2 ?_
              refine XS.dconst1 X179.here hx rfl (hb hby at_268) rfl ?_
              refine XS.goto X179.here hx rfl (pc0 := 269) (pc' := 285) rfl (hb hby at_269) (by decide) (by decide) ?_
              exact kt
            exact pre199 t (by rw [ej195_0, ej195_1] at kt; exact kt)
          · have pre200 : ∀ t, own_S p e below m T179 285 #[lvI p0_, lvI p1_, lvI p2_, lvI p3_, lvI p4_, lvI i0_, lvI i1_, lvI i2_, lvI i3_, lvJ ((i0_.toInt64) + (i1_.toInt64)), .second, lvJ ((i2_.toInt64) + (i3_.toInt64)), .second, lvI (0 : Int32), lvJ (1 : Int64), .second, lvR b27, lvR b37, lvR b53, lvR nb2_157, lvR nb15_157, lvR nb121_157, lvJ (hi_.toInt64), .second, lvD l1_, .second, lvD l2_, .second, lvD pd1, .second, lvI (1 : Int32), .unset, .unset, .unset, .unset, .unset, .unset, .unset, .unset] [(.double (4602678819172646912 : UInt64))] t → G t := by
              intro t kt
              refine pre193 t ?_
              show own_S p e below m T179 239 #[lvI p0_, lvI p1_, lvI p2_, lvI p3_, lvI p4_, lvI i0_, lvI i1_, lvI i2_, lvI i3_, lvJ ((i0_.toInt64) + (i1_.toInt64)), .second, lvJ ((i2_.toInt64) + (i3_.toInt64)), .second, lvI (0 : Int32), lvJ (1 : Int64), .second, lvR b27, lvR b37, lvR b53, lvR nb2_157, lvR nb15_157, lvR nb121_157, lvJ (hi_.toInt64), .second, lvD l1_, .second, lvD l2_, .second, lvD pd1, .second, .unset, .unset, .unset, .unset, .unset, .unset, .unset, .unset, .unset] [] _
              refine XS.iload X179.here hx rfl (hb hby at_239) rfl ?_
              show own_S p e below m T179 241 #[lvI p0_, lvI p1_, lvI p2_, lvI p3_, lvI p4_, lvI i0_, lvI i1_, lvI i2_, lvI i3_, lvJ ((i0_.toInt64) + (i1_.toInt64)), .second, lvJ ((i2_.toInt64) + (i3_.toInt64)), .second, lvI (0 : Int32), lvJ (1 : Int64), .second, lvR b27, lvR b37, lvR b53, lvR nb2_157, lvR nb15_157, lvR nb121_157, lvJ (hi_.toInt64), .second, lvD l1_, .second, lvD l2_, .second, lvD pd1, .second, .unset, .unset, .unset, .unset, .unset, .unset, .unset, .unset, .unset] [(.int i0_)] _
              refine XS.ifNo X179.here hx rfl (hb hby at_241) rfl ((if0 _ _).trans (tlt hj196_0).2.2.2) ?_
              refine XS.iconst X179.here hx rfl (hb hby at_244) ?_
              refine XS.goto X179.here hx rfl (pc0 := 245) (pc' := 249) rfl (hb hby at_245) (by decide) (by decide) ?_
              refine XS.iload X179.here hx rfl (hb hby at_249) rfl ?_
              show own_S p e below m T179 251 #[lvI p0_, lvI p1_, lvI p2_, lvI p3_, lvI p4_, lvI i0_, lvI i1_, lvI i2_, lvI i3_, lvJ ((i0_.toInt64) + (i1_.toInt64)), .second, lvJ ((i2_.toInt64) + (i3_.toInt64)), .second, lvI (0 : Int32), lvJ (1 : Int64), .second, lvR b27, lvR b37, lvR b53, lvR nb2_157, lvR nb15_157, lvR nb121_157, lvJ (hi_.toInt64), .second, lvD l1_, .second, lvD l2_, .second, lvD pd1, .second, .unset, .unset, .unset, .unset, .unset, .unset, .unset, .unset, .unset] [(.int i1_), (.int (1 : Int32))] _
              refine XS.ifYes X179.here hx rfl (pc0 := 251) (pc' := 258) rfl (hb hby at_251) rfl ((if0 _ _).trans (flt hj196_1).2.2.2) (by decide) (by decide) ?_
              refine XS.iconst X179.here hx rfl (hb hby at_258) ?_
              refine XS.iadd X179.here hx rfl (hb hby at_259) rfl ?_
              refine XS.istore X179.here hx rfl (hb hby at_260) rfl (l' := #[lvI p0_, lvI p1_, lvI p2_, lvI p3_, lvI p4_, lvI i0_, lvI i1_, lvI i2_, lvI i3_, lvJ ((i0_.toInt64) + (i1_.toInt64)), .second, lvJ ((i2_.toInt64) + (i3_.toInt64)), .second, lvI (0 : Int32), lvJ (1 : Int64), .second, lvR b27, lvR b37, lvR b53, lvR nb2_157, lvR nb15_157, lvR nb121_157, lvJ (hi_.toInt64), .second, lvD l1_, .second, lvD l2_, .second, lvD pd1, .second, lvI (1 : Int32), .unset, .unset, .unset, .unset, .unset, .unset, .unset, .unset]) rfl ?_
              refine XS.iload X179.here hx rfl (hb hby at_262) rfl ?_
              refine XS.iconst X179.here hx rfl (hb hby at_264) ?_
              show own_S p e below m T179 265 #[lvI p0_, lvI p1_, lvI p2_, lvI p3_, lvI p4_, lvI i0_, lvI i1_, lvI i2_, lvI i3_, lvJ ((i0_.toInt64) + (i1_.toInt64)), .second, lvJ ((i2_.toInt64) + (i3_.toInt64)), .second, lvI (0 : Int32), lvJ (1 : Int64), .second, lvR b27, lvR b37, lvR b53, lvR nb2_157, lvR nb15_157, lvR nb121_157, lvJ (hi_.toInt64), .second, lvD l1_, .second, lvD l2_, .second, lvD pd1, .second, lvI (1 : Int32), .unset, .unset, .unset, .unset, .unset, .unset, .unset, .unset] [(.int (2 : Int32)), (.int (1 : Int32))] _
              refine XS.icmpYes X179.here hx rfl (pc0 := 265) (pc' := 272) rfl (hb hby at_265) rfl (feq (by decide : ¬ ((1 : Int32) = (2 : Int32)))).2 (by decide) (by decide) ?_
              refine XS.iload X179.here hx rfl (hb hby at_272) rfl ?_
              refine XS.iconst X179.here hx rfl (hb hby at_274) ?_
              show own_S p e below m T179 275 #[lvI p0_, lvI p1_, lvI p2_, lvI p3_, lvI p4_, lvI i0_, lvI i1_, lvI i2_, lvI i3_, lvJ ((i0_.toInt64) + (i1_.toInt64)), .second, lvJ ((i2_.toInt64) + (i3_.toInt64)), .second, lvI (0 : Int32), lvJ (1 : Int64), .second, lvR b27, lvR b37, lvR b53, lvR nb2_157, lvR nb15_157, lvR nb121_157, lvJ (hi_.toInt64), .second, lvD l1_, .second, lvD l2_, .second, lvD pd1, .second, lvI (1 : Int32), .unset, .unset, .unset, .unset, .unset, .unset, .unset, .unset] [(.int (1 : Int32)), (.int (1 : Int32))] _
              refine XS.icmpNo X179.here hx rfl (hb hby at_275) rfl (teq (by decide : (1 : Int32) = (1 : Int32))).2 ?_
              show own_S p e below m T179 278 #[lvI p0_, lvI p1_, lvI p2_, lvI p3_, lvI p4_, lvI i0_, lvI i1_, lvI i2_, lvI i3_, lvJ ((i0_.toInt64) + (i1_.toInt64)), .second, lvJ ((i2_.toInt64) + (i3_.toInt64)), .second, lvI (0 : Int32), lvJ (1 : Int64), .second, lvR b27, lvR b37, lvR b53, lvR nb2_157, lvR nb15_157, lvR nb121_157, lvJ (hi_.toInt64), .second, lvD l1_, .second, lvD l2_, .second, lvD pd1, .second, lvI (1 : Int32), .unset, .unset, .unset, .unset, .unset, .unset, .unset, .unset] [] _
              refine X179.ldc2DoubleC hx hown (mvT hZ (own_w hw 184 rfl)) (g := (mkF m 278 #[lvI p0_, lvI p1_, lvI p2_, lvI p3_, lvI p4_, lvI i0_, lvI i1_, lvI i2_, lvI i3_, lvJ ((i0_.toInt64) + (i1_.toInt64)), .second, lvJ ((i2_.toInt64) + (i3_.toInt64)), .second, lvI (0 : Int32), lvJ (1 : Int64), .second, lvR b27, lvR b37, lvR b53, lvR nb2_157, lvR nb15_157, lvR nb121_157, lvJ (hi_.toInt64), .second, lvD l1_, .second, lvD l2_, .second, lvD pd1, .second, lvI (1 : Int32), .unset, .unset, .unset, .unset, .unset, .unset, .unset, .unset] [])) rfl (hb hby at_278) _ ?_
              refine XS.goto X179.here hx rfl (pc0 := 281) (pc' := 285) rfl (hb hby at_281) (by decide) (by decide) ?_
              exact kt
            exact pre200 t (by rw [ej196_0, ej196_1] at kt; exact kt)
          · have pre201 : ∀ t, own_S p e below m T179 285 #[lvI p0_, lvI p1_, lvI p2_, lvI p3_, lvI p4_, lvI i0_, lvI i1_, lvI i2_, lvI i3_, lvJ ((i0_.toInt64) + (i1_.toInt64)), .second, lvJ ((i2_.toInt64) + (i3_.toInt64)), .second, lvI (0 : Int32), lvJ (1 : Int64), .second, lvR b27, lvR b37, lvR b53, lvR nb2_157, lvR nb15_157, lvR nb121_157, lvJ (hi_.toInt64), .second, lvD l1_, .second, lvD l2_, .second, lvD pd1, .second, lvI (1 : Int32), .unset, .unset, .unset, .unset, .unset, .unset, .unset, .unset] [(.double (4602678819172646912 : UInt64))] t → G t := by
              intro t kt
              refine pre193 t ?_
              show own_S p e below m T179 239 #[lvI p0_, lvI p1_, lvI p2_, lvI p3_, lvI p4_, lvI i0_, lvI i1_, lvI i2_, lvI i3_, lvJ ((i0_.toInt64) + (i1_.toInt64)), .second, lvJ ((i2_.toInt64) + (i3_.toInt64)), .second, lvI (0 : Int32), lvJ (1 : Int64), .second, lvR b27, lvR b37, lvR b53, lvR nb2_157, lvR nb15_157, lvR nb121_157, lvJ (hi_.toInt64), .second, lvD l1_, .second, lvD l2_, .second, lvD pd1, .second, .unset, .unset, .unset, .unset, .unset, .unset, .unset, .unset, .unset] [] _
              refine XS.iload X179.here hx rfl (hb hby at_239) rfl ?_
              show own_S p e below m T179 241 #[lvI p0_, lvI p1_, lvI p2_, lvI p3_, lvI p4_, lvI i0_, lvI i1_, lvI i2_, lvI i3_, lvJ ((i0_.toInt64) + (i1_.toInt64)), .second, lvJ ((i2_.toInt64) + (i3_.toInt64)), .second, lvI (0 : Int32), lvJ (1 : Int64), .second, lvR b27, lvR b37, lvR b53, lvR nb2_157, lvR nb15_157, lvR nb121_157, lvJ (hi_.toInt64), .second, lvD l1_, .second, lvD l2_, .second, lvD pd1, .second, .unset, .unset, .unset, .unset, .unset, .unset, .unset, .unset, .unset] [(.int i0_)] _
              refine XS.ifYes X179.here hx rfl (pc0 := 241) (pc' := 248) rfl (hb hby at_241) rfl ((if0 _ _).trans (flt hj197_0).2.2.2) (by decide) (by decide) ?_
              refine XS.iconst X179.here hx rfl (hb hby at_248) ?_
              refine XS.iload X179.here hx rfl (hb hby at_249) rfl ?_
              show own_S p e below m T179 251 #[lvI p0_, lvI p1_, lvI p2_, lvI p3_, lvI p4_, lvI i0_, lvI i1_, lvI i2_, lvI i3_, lvJ ((i0_.toInt64) + (i1_.toInt64)), .second, lvJ ((i2_.toInt64) + (i3_.toInt64)), .second, lvI (0 : Int32), lvJ (1 : Int64), .second, lvR b27, lvR b37, lvR b53, lvR nb2_157, lvR nb15_157, lvR nb121_157, lvJ (hi_.toInt64), .second, lvD l1_, .second, lvD l2_, .second, lvD pd1, .second, .unset, .unset, .unset, .unset, .unset, .unset, .unset, .unset, .unset] [(.int i1_), (.int (0 : Int32))] _
              refine XS.ifNo X179.here hx rfl (hb hby at_251) rfl ((if0 _ _).trans (tlt hj197_1).2.2.2) ?_
              refine XS.iconst X179.here hx rfl (hb hby at_254) ?_
              refine XS.goto X179.here hx rfl (pc0 := 255) (pc' := 259) rfl (hb hby at_255) (by decide) (by decide) ?_
              refine XS.iadd X179.here hx rfl (hb hby at_259) rfl ?_
              refine XS.istore X179.here hx rfl (hb hby at_260) rfl (l' := #[lvI p0_, lvI p1_, lvI p2_, lvI p3_, lvI p4_, lvI i0_, lvI i1_, lvI i2_, lvI i3_, lvJ ((i0_.toInt64) + (i1_.toInt64)), .second, lvJ ((i2_.toInt64) + (i3_.toInt64)), .second, lvI (0 : Int32), lvJ (1 : Int64), .second, lvR b27, lvR b37, lvR b53, lvR nb2_157, lvR nb15_157, lvR nb121_157, lvJ (hi_.toInt64), .second, lvD l1_, .second, lvD l2_, .second, lvD pd1, .second, lvI (1 : Int32), .unset, .unset, .unset, .unset, .unset, .unset, .unset, .unset]) rfl ?_
              refine XS.iload X179.here hx rfl (hb hby at_262) rfl ?_
              refine XS.iconst X179.here hx rfl (hb hby at_264) ?_
              show own_S p e below m T179 265 #[lvI p0_, lvI p1_, lvI p2_, lvI p3_, lvI p4_, lvI i0_, lvI i1_, lvI i2_, lvI i3_, lvJ ((i0_.toInt64) + (i1_.toInt64)), .second, lvJ ((i2_.toInt64) + (i3_.toInt64)), .second, lvI (0 : Int32), lvJ (1 : Int64), .second, lvR b27, lvR b37, lvR b53, lvR nb2_157, lvR nb15_157, lvR nb121_157, lvJ (hi_.toInt64), .second, lvD l1_, .second, lvD l2_, .second, lvD pd1, .second, lvI (1 : Int32), .unset, .unset, .unset, .unset, .unset, .unset, .unset, .unset] [(.int (2 : Int32)), (.int (1 : Int32))] _
              refine XS.icmpYes X179.here hx rfl (pc0 := 265) (pc' := 272) rfl (hb hby at_265) rfl (feq (by decide : ¬ ((1 : Int32) = (2 : Int32)))).2 (by decide) (by decide) ?_
              refine XS.iload X179.here hx rfl (hb hby at_272) rfl ?_
              refine XS.iconst X179.here hx rfl (hb hby at_274) ?_
              show own_S p e below m T179 275 #[lvI p0_, lvI p1_, lvI p2_, lvI p3_, lvI p4_, lvI i0_, lvI i1_, lvI i2_, lvI i3_, lvJ ((i0_.toInt64) + (i1_.toInt64)), .second, lvJ ((i2_.toInt64) + (i3_.toInt64)), .second, lvI (0 : Int32), lvJ (1 : Int64), .second, lvR b27, lvR b37, lvR b53, lvR nb2_157, lvR nb15_157, lvR nb121_157, lvJ (hi_.toInt64), .second, lvD l1_, .second, lvD l2_, .second, lvD pd1, .second, lvI (1 : Int32), .unset, .unset, .unset, .unset, .unset, .unset, .unset, .unset] [(.int (1 : Int32)), (.int (1 : Int32))] _
              refine XS.icmpNo X179.here hx rfl (hb hby at_275) rfl (teq (by decide : (1 : Int32) = (1 : Int32))).2 ?_
              show own_S p e below m T179 278 #[lvI p0_, lvI p1_, lvI p2_, lvI p3_, lvI p4_, lvI i0_, lvI i1_, lvI i2_, lvI i3_, lvJ ((i0_.toInt64) + (i1_.toInt64)), .second, lvJ ((i2_.toInt64) + (i3_.toInt64)), .second, lvI (0 : Int32), lvJ (1 : Int64), .second, lvR b27, lvR b37, lvR b53, lvR nb2_157, lvR nb15_157, lvR nb121_157, lvJ (hi_.toInt64), .second, lvD l1_, .second, lvD l2_, .second, lvD pd1, .second, lvI (1 : Int32), .unset, .unset, .unset, .unset, .unset, .unset, .unset, .unset] [] _
              refine X179.ldc2DoubleC hx hown (mvT hZ (own_w hw 184 rfl)) (g := (mkF m 278 #[lvI p0_, lvI p1_, lvI p2_, lvI p3_, lvI p4_, lvI i0_, lvI i1_, lvI i2_, lvI i3_, lvJ ((i0_.toInt64) + (i1_.toInt64)), .second, lvJ ((i2_.toInt64) + (i3_.toInt64)), .second, lvI (0 : Int32), lvJ (1 : Int64), .second, lvR b27, lvR b37, lvR b53, lvR nb2_157, lvR nb15_157, lvR nb121_157, lvJ (hi_.toInt64), .second, lvD l1_, .second, lvD l2_, .second, lvD pd1, .second, lvI (1 : Int32), .unset, .unset, .unset, .unset, .unset, .unset, .unset, .unset] [])) rfl (hb hby at_278) _ ?_
              refine XS.goto X179.here hx rfl (pc0 := 281) (pc' := 285) rfl (hb hby at_281) (by decide) (by decide) ?_
              exact kt
            exact pre201 t (by rw [ej197_0, ej197_1] at kt; exact kt)
          · have pre202 : ∀ t, own_S p e below m T179 285 #[lvI p0_, lvI p1_, lvI p2_, lvI p3_, lvI p4_, lvI i0_, lvI i1_, lvI i2_, lvI i3_, lvJ ((i0_.toInt64) + (i1_.toInt64)), .second, lvJ ((i2_.toInt64) + (i3_.toInt64)), .second, lvI (0 : Int32), lvJ (1 : Int64), .second, lvR b27, lvR b37, lvR b53, lvR nb2_157, lvR nb15_157, lvR nb121_157, lvJ (hi_.toInt64), .second, lvD l1_, .second, lvD l2_, .second, lvD pd1, .second, lvI (0 : Int32), .unset, .unset, .unset, .unset, .unset, .unset, .unset, .unset] [(.double (0 : UInt64))] t → G t := by
              intro t kt
              refine pre193 t ?_
              show own_S p e below m T179 239 #[lvI p0_, lvI p1_, lvI p2_, lvI p3_, lvI p4_, lvI i0_, lvI i1_, lvI i2_, lvI i3_, lvJ ((i0_.toInt64) + (i1_.toInt64)), .second, lvJ ((i2_.toInt64) + (i3_.toInt64)), .second, lvI (0 : Int32), lvJ (1 : Int64), .second, lvR b27, lvR b37, lvR b53, lvR nb2_157, lvR nb15_157, lvR nb121_157, lvJ (hi_.toInt64), .second, lvD l1_, .second, lvD l2_, .second, lvD pd1, .second, .unset, .unset, .unset, .unset, .unset, .unset, .unset, .unset, .unset] [] _
              refine XS.iload X179.here hx rfl (hb hby at_239) rfl ?_
              show own_S p e below m T179 241 #[lvI p0_, lvI p1_, lvI p2_, lvI p3_, lvI p4_, lvI i0_, lvI i1_, lvI i2_, lvI i3_, lvJ ((i0_.toInt64) + (i1_.toInt64)), .second, lvJ ((i2_.toInt64) + (i3_.toInt64)), .second, lvI (0 : Int32), lvJ (1 : Int64), .second, lvR b27, lvR b37, lvR b53, lvR nb2_157, lvR nb15_157, lvR nb121_157, lvJ (hi_.toInt64), .second, lvD l1_, .second, lvD l2_, .second, lvD pd1, .second, .unset, .unset, .unset, .unset, .unset, .unset, .unset, .unset, .unset] [(.int i0_)] _
              refine XS.ifYes X179.here hx rfl (pc0 := 241) (pc' := 248) rfl (hb hby at_241) rfl ((if0 _ _).trans (flt hj198_0).2.2.2) (by decide) (by decide) ?_
              refine XS.iconst X179.here hx rfl (hb hby at_248) ?_
              refine XS.iload X179.here hx rfl (hb hby at_249) rfl ?_
              show own_S p e below m T179 251 #[lvI p0_, lvI p1_, lvI p2_, lvI p3_, lvI p4_, lvI i0_, lvI i1_, lvI i2_, lvI i3_, lvJ ((i0_.toInt64) + (i1_.toInt64)), .second, lvJ ((i2_.toInt64) + (i3_.toInt64)), .second, lvI (0 : Int32), lvJ (1 : Int64), .second, lvR b27, lvR b37, lvR b53, lvR nb2_157, lvR nb15_157, lvR nb121_157, lvJ (hi_.toInt64), .second, lvD l1_, .second, lvD l2_, .second, lvD pd1, .second, .unset, .unset, .unset, .unset, .unset, .unset, .unset, .unset, .unset] [(.int i1_), (.int (0 : Int32))] _
              refine XS.ifYes X179.here hx rfl (pc0 := 251) (pc' := 258) rfl (hb hby at_251) rfl ((if0 _ _).trans (flt hj198_1).2.2.2) (by decide) (by decide) ?_
              refine XS.iconst X179.here hx rfl (hb hby at_258) ?_
              refine XS.iadd X179.here hx rfl (hb hby at_259) rfl ?_
              refine XS.istore X179.here hx rfl (hb hby at_260) rfl (l' := #[lvI p0_, lvI p1_, lvI p2_, lvI p3_, lvI p4_, lvI i0_, lvI i1_, lvI i2_, lvI i3_, lvJ ((i0_.toInt64) + (i1_.toInt64)), .second, lvJ ((i2_.toInt64) + (i3_.toInt64)), .second, lvI (0 : Int32), lvJ (1 : Int64), .second, lvR b27, lvR b37, lvR b53, lvR nb2_157, lvR nb15_157, lvR nb121_157, lvJ (hi_.toInt64), .second, lvD l1_, .second, lvD l2_, .second, lvD pd1, .second, lvI (0 : Int32), .unset, .unset, .unset, .unset, .unset, .unset, .unset, .unset]) rfl ?_
              refine XS.iload X179.here hx rfl (hb hby at_262) rfl ?_
              refine XS.iconst X179.here hx rfl (hb hby at_264) ?_
              show own_S p e below m T179 265 #[lvI p0_, lvI p1_, lvI p2_, lvI p3_, lvI p4_, lvI i0_, lvI i1_, lvI i2_, lvI i3_, lvJ ((i0_.toInt64) + (i1_.toInt64)), .second, lvJ ((i2_.toInt64) + (i3_.toInt64)), .second, lvI (0 : Int32), lvJ (1 : Int64), .second, lvR b27, lvR b37, lvR b53, lvR nb2_157, lvR nb15_157, lvR nb121_157, lvJ (hi_.toInt64), .second, lvD l1_, .second, lvD l2_, .second, lvD pd1, .second, lvI (0 : Int32), .unset, .unset, .unset, .unset, .unset, .unset, .unset, .unset] [(.int (2 : Int32)), (.int (0 : Int32))] _
              refine XS.icmpYes X179.here hx rfl (pc0 := 265) (pc' := 272) rfl (hb hby at_265) rfl (feq (by decide : ¬ ((0 : Int32) = (2 : Int32)))).2 (by decide) (by decide) ?_
              refine XS.iload X179.here hx rfl (hb hby at_272) rfl ?_
              refine XS.iconst X179.here hx rfl (hb hby at_274) ?_
              show own_S p e below m T179 275 #[lvI p0_, lvI p1_, lvI p2_, lvI p3_, lvI p4_, lvI i0_, lvI i1_, lvI i2_, lvI i3_, lvJ ((i0_.toInt64) + (i1_.toInt64)), .second, lvJ ((i2_.toInt64) + (i3_.toInt64)), .second, lvI (0 : Int32), lvJ (1 : Int64), .second, lvR b27, lvR b37, lvR b53, lvR nb2_157, lvR nb15_157, lvR nb121_157, lvJ (hi_.toInt64), .second, lvD l1_, .second, lvD l2_, .second, lvD pd1, .second, lvI (0 : Int32), .unset, .unset, .unset, .unset, .unset, .unset, .unset, .unset] [(.int (1 : Int32)), (.int (0 : Int32))] _
              refine XS.icmpYes X179.here hx rfl (pc0 := 275) (pc' := 284) rfl (hb hby at_275) rfl (feq (by decide : ¬ ((0 : Int32) = (1 : Int32)))).2 (by decide) (by decide) ?_
              refine XS.dconst0 X179.here hx rfl (hb hby at_284) rfl ?_
              exact kt
            exact pre202 t (by rw [ej198_0, ej198_1] at kt; exact kt)
        have hn203 : Jvm.Free.Fl.NoNaN64 (FP.ddiv (FP.i2d i2_) (FP.l2d ((i2_.toInt64) + (i3_.toInt64)))) := own_l3 HM
        have pre204 : ∀ t, own_S p e below m T179 294 #[lvI p0_, lvI p1_, lvI p2_, lvI p3_, lvI p4_, lvI i0_, lvI i1_, lvI i2_, lvI i3_, lvJ ((i0_.toInt64) + (i1_.toInt64)), .second, lvJ ((i2_.toInt64) + (i3_.toInt64)), .second, lvI (0 : Int32), lvJ (1 : Int64), .second, lvR b27, lvR b37, lvR b53, lvR nb2_157, lvR nb15_157, lvR nb121_157, lvJ (hi_.toInt64), .second, lvD l1_, .second, lvD l2_, .second, lvD pd1, .second, lvI hd, lvD pd2, .second, .unset, .unset, .unset, .unset, .unset, .unset] [(.double (FP.ddiv (FP.i2d i2_) (FP.l2d ((i2_.toInt64) + (i3_.toInt64)))))] t → G t := by
          intro t kt
          refine pre194 t ?_
          show own_S p e below m T179 285 #[lvI p0_, lvI p1_, lvI p2_, lvI p3_, lvI p4_, lvI i0_, lvI i1_, lvI i2_, lvI i3_, lvJ ((i0_.toInt64) + (i1_.toInt64)), .second, lvJ ((i2_.toInt64) + (i3_.toInt64)), .second, lvI (0 : Int32), lvJ (1 : Int64), .second, lvR b27, lvR b37, lvR b53, lvR nb2_157, lvR nb15_157, lvR nb121_157, lvJ (hi_.toInt64), .second, lvD l1_, .second, lvD l2_, .second, lvD pd1, .second, lvI hd, .unset, .unset, .unset, .unset, .unset, .unset, .unset, .unset] [(.double pd2)] _
          refine XS.dstore X179.here hx rfl (hb hby at_285) rfl (l' := #[lvI p0_, lvI p1_, lvI p2_, lvI p3_, lvI p4_, lvI i0_, lvI i1_, lvI i2_, lvI i3_, lvJ ((i0_.toInt64) + (i1_.toInt64)), .second, lvJ ((i2_.toInt64) + (i3_.toInt64)), .second, lvI (0 : Int32), lvJ (1 : Int64), .second, lvR b27, lvR b37, lvR b53, lvR nb2_157, lvR nb15_157, lvR nb121_157, lvJ (hi_.toInt64), .second, lvD l1_, .second, lvD l2_, .second, lvD pd1, .second, lvI hd, lvD pd2, .second, .unset, .unset, .unset, .unset, .unset, .unset]) rfl ?_
          refine XS.iload X179.here hx rfl (hb hby at_287) rfl ?_
          refine XS.i2dS X179.here hx rfl (hb hby at_289) rfl rfl ?_
          refine XS.lload X179.here hx rfl (hb hby at_290) rfl ?_
          refine XS.l2dS X179.here hx rfl (hb hby at_292) rfl rfl ?_
          refine XS.ddivS X179.here hx rfl (hb hby at_293) rfl hn203 rfl ?_
          exact kt
        obtain ⟨l3_, el3⟩ : ∃ z, z = (FP.ddiv (FP.i2d i2_) (FP.l2d ((i2_.toInt64) + (i3_.toInt64)))) := ⟨_, rfl⟩
        have pre205 : ∀ t, own_S p e below m T179 294 #[lvI p0_, lvI p1_, lvI p2_, lvI p3_, lvI p4_, lvI i0_, lvI i1_, lvI i2_, lvI i3_, lvJ ((i0_.toInt64) + (i1_.toInt64)), .second, lvJ ((i2_.toInt64) + (i3_.toInt64)), .second, lvI (0 : Int32), lvJ (1 : Int64), .second, lvR b27, lvR b37, lvR b53, lvR nb2_157, lvR nb15_157, lvR nb121_157, lvJ (hi_.toInt64), .second, lvD l1_, .second, lvD l2_, .second, lvD pd1, .second, lvI hd, lvD pd2, .second, .unset, .unset, .unset, .unset, .unset, .unset] [(.double l3_)] t → G t := fun t kt => pre204 t (by rw [← el3]; exact kt)
        have hn206 : Jvm.Free.Fl.NoNaN64 (FP.ddiv (FP.l2d ((1 : Int64) * (i0_.toInt64))) (FP.l2d ((1 : Int64) * (hi_.toInt64)))) := own_l41 HM hS
        have pre207 : ∀ t, own_S p e below m T179 310 #[lvI p0_, lvI p1_, lvI p2_, lvI p3_, lvI p4_, lvI i0_, lvI i1_, lvI i2_, lvI i3_, lvJ ((i0_.toInt64) + (i1_.toInt64)), .second, lvJ ((i2_.toInt64) + (i3_.toInt64)), .second, lvI (0 : Int32), lvJ (1 : Int64), .second, lvR b27, lvR b37, lvR b53, lvR nb2_157, lvR nb15_157, lvR nb121_157, lvJ (hi_.toInt64), .second, lvD l1_, .second, lvD l2_, .second, lvD pd1, .second, lvI hd, lvD pd2, .second, lvD l3_, .second, .unset, .unset, .unset, .unset] [(.double (FP.ddiv (FP.l2d ((1 : Int64) * (i0_.toInt64))) (FP.l2d ((1 : Int64) * (hi_.toInt64)))))] t → G t := by
          intro t kt
          refine pre205 t ?_
          show own_S p e below m T179 294 #[lvI p0_, lvI p1_, lvI p2_, lvI p3_, lvI p4_, lvI i0_, lvI i1_, lvI i2_, lvI i3_, lvJ ((i0_.toInt64) + (i1_.toInt64)), .second, lvJ ((i2_.toInt64) + (i3_.toInt64)), .second, lvI (0 : Int32), lvJ (1 : Int64), .second, lvR b27, lvR b37, lvR b53, lvR nb2_157, lvR nb15_157, lvR nb121_157, lvJ (hi_.toInt64), .second, lvD l1_, .second, lvD l2_, .second, lvD pd1, .second, lvI hd, lvD pd2, .second, .unset, .unset, .unset, .unset, .unset, .unset] [(.double l3_)] _
          refine XS.dstore X179.here hx rfl (hb hby at_294) rfl (l' := #[lvI p0_, lvI p1_, lvI p2_, lvI p3_, lvI p4_, lvI i0_, lvI i1_, lvI i2_, lvI i3_, lvJ ((i0_.toInt64) + (i1_.toInt64)), .second, lvJ ((i2_.toInt64) + (i3_.toInt64)), .second, lvI (0 : Int32), lvJ (1 : Int64), .second, lvR b27, lvR b37, lvR b53, lvR nb2_157, lvR nb15_157, lvR nb121_157, lvJ (hi_.toInt64), .second, lvD l1_, .second, lvD l2_, .second, lvD pd1, .second, lvI hd, lvD pd2, .second, lvD l3_, .second, .unset, .unset, .unset, .unset]) rfl ?_
          refine XS.lload X179.here hx rfl (hb hby at_296) rfl ?_
          refine XS.iload X179.here hx rfl (hb hby at_298) rfl ?_
          refine XS.i2l X179.here hx rfl (hb hby at_300) rfl ?_
          refine XS.lmul X179.here hx rfl (hb hby at_301) rfl ?_
          refine XS.l2dS X179.here hx rfl (hb hby at_302) rfl rfl ?_
          refine XS.lload X179.here hx rfl (hb hby at_303) rfl ?_
          refine XS.lload X179.here hx rfl (hb hby at_305) rfl ?_
          show own_S p e below m T179 307 #[lvI p0_, lvI p1_, lvI p2_, lvI p3_, lvI p4_, lvI i0_, lvI i1_, lvI i2_, lvI i3_, lvJ ((i0_.toInt64) + (i1_.toInt64)), .second, lvJ ((i2_.toInt64) + (i3_.toInt64)), .second, lvI (0 : Int32), lvJ (1 : Int64), .second, lvR b27, lvR b37, lvR b53, lvR nb2_157, lvR nb15_157, lvR nb121_157, lvJ (hi_.toInt64), .second, lvD l1_, .second, lvD l2_, .second, lvD pd1, .second, lvI hd, lvD pd2, .second, lvD l3_, .second, .unset, .unset, .unset, .unset] [(.long (hi_.toInt64)), (.long (1 : Int64)), (.double (FP.l2d ((1 : Int64) * (i0_.toInt64))))] _
          refine XS.lmul X179.here hx rfl (hb hby at_307) rfl ?_
          refine XS.l2dS X179.here hx rfl (hb hby at_308) rfl rfl ?_
          refine XS.ddivS X179.here hx rfl (hb hby at_309) rfl hn206 rfl ?_
          exact kt
        obtain ⟨l4_, el4⟩ : ∃ z, z = (FP.ddiv (FP.l2d ((1 : Int64) * (i0_.toInt64))) (FP.l2d ((1 : Int64) * (hi_.toInt64)))) := ⟨_, rfl⟩
        have pre208 : ∀ t, own_S p e below m T179 310 #[lvI p0_, lvI p1_, lvI p2_, lvI p3_, lvI p4_, lvI i0_, lvI i1_, lvI i2_, lvI i3_, lvJ ((i0_.toInt64) + (i1_.toInt64)), .second, lvJ ((i2_.toInt64) + (i3_.toInt64)), .second, lvI (0 : Int32), lvJ (1 : Int64), .second, lvR b27, lvR b37, lvR b53, lvR nb2_157, lvR nb15_157, lvR nb121_157, lvJ (hi_.toInt64), .second, lvD l1_, .second, lvD l2_, .second, lvD pd1, .second, lvI hd, lvD pd2, .second, lvD l3_, .second, .unset, .unset, .unset, .unset] [(.double l4_)] t → G t := fun t kt => pre207 t (by rw [← el4]; exact kt)
        have hn209 : Jvm.Free.Fl.NoNaN64 (FP.ddiv (FP.l2d ((1 : Int64) * (i0_.toInt64))) (FP.l2d ((1 : Int64) * ((i0_.toInt64) + (i1_.toInt64))))) := own_l51 HM
        have pre210 : ∀ t, own_S p e below m T179 326 #[lvI p0_, lvI p1_, lvI p2_, lvI p3_, lvI p4_, lvI i0_, lvI i1_, lvI i2_, lvI i3_, lvJ ((i0_.toInt64) + (i1_.toInt64)), .second, lvJ ((i2_.toInt64) + (i3_.toInt64)), .second, lvI (0 : Int32), lvJ (1 : Int64), .second, lvR b27, lvR b37, lvR b53, lvR nb2_157, lvR nb15_157, lvR nb121_157, lvJ (hi_.toInt64), .second, lvD l1_, .second, lvD l2_, .second, lvD pd1, .second, lvI hd, lvD pd2, .second, lvD l3_, .second, lvD l4_, .second, .unset, .unset] [(.double (FP.ddiv (FP.l2d ((1 : Int64) * (i0_.toInt64))) (FP.l2d ((1 : Int64) * ((i0_.toInt64) + (i1_.toInt64))))))] t → G t := by
          intro t kt
          refine pre208 t ?_
          show own_S p e below m T179 310 #[lvI p0_, lvI p1_, lvI p2_, lvI p3_, lvI p4_, lvI i0_, lvI i1_, lvI i2_, lvI i3_, lvJ ((i0_.toInt64) + (i1_.toInt64)), .second, lvJ ((i2_.toInt64) + (i3_.toInt64)), .second, lvI (0 : Int32), lvJ (1 : Int64), .second, lvR b27, lvR b37, lvR b53, lvR nb2_157, lvR nb15_157, lvR nb121_157, lvJ (hi_.toInt64), .second, lvD l1_, .second, lvD l2_, .second, lvD pd1, .second, lvI hd, lvD pd2, .second, lvD l3_, .second, .unset, .unset, .unset, .unset] [(.double l4_)] _
          refine XS.dstore X179.here hx rfl (hb hby at_310) rfl (l' := #[lvI p0_, lvI p1_, lvI p2_, lvI p3_, lvI p4_, lvI i0_, lvI i1_, lvI i2_, lvI i3_, lvJ ((i0_.toInt64) + (i1_.toInt64)), .second, lvJ ((i2_.toInt64) + (i3_.toInt64)), .second, lvI (0 : Int32), lvJ (1 : Int64), .second, lvR b27, lvR b37, lvR b53, lvR nb2_157, lvR nb15_157, lvR nb121_157, lvJ (hi_.toInt64), .second, lvD l1_, .second, lvD l2_, .second, lvD pd1, .second, lvI hd, lvD pd2, .second, lvD l3_, .second, lvD l4_, .second, .unset, .unset]) rfl ?_
          refine XS.lload X179.here hx rfl (hb hby at_312) rfl ?_
          refine XS.iload X179.here hx rfl (hb hby at_314) rfl ?_
          refine XS.i2l X179.here hx rfl (hb hby at_316) rfl ?_
          refine XS.lmul X179.here hx rfl (hb hby at_317) rfl ?_
          refine XS.l2dS X179.here hx rfl (hb hby at_318) rfl rfl ?_
          refine XS.lload X179.here hx rfl (hb hby at_319) rfl ?_
          refine XS.lload X179.here hx rfl (hb hby at_321) rfl ?_
          show own_S p e below m T179 323 #[lvI p0_, lvI p1_, lvI p2_, lvI p3_, lvI p4_, lvI i0_, lvI i1_, lvI i2_, lvI i3_, lvJ ((i0_.toInt64) + (i1_.toInt64)), .second, lvJ ((i2_.toInt64) + (i3_.toInt64)), .second, lvI (0 : Int32), lvJ (1 : Int64), .second, lvR b27, lvR b37, lvR b53, lvR nb2_157, lvR nb15_157, lvR nb121_157, lvJ (hi_.toInt64), .second, lvD l1_, .second, lvD l2_, .second, lvD pd1, .second, lvI hd, lvD pd2, .second, lvD l3_, .second, lvD l4_, .second, .unset, .unset] [(.long ((i0_.toInt64) + (i1_.toInt64))), (.long (1 : Int64)), (.double (FP.l2d ((1 : Int64) * (i0_.toInt64))))] _
          refine XS.lmul X179.here hx rfl (hb hby at_323) rfl ?_
          refine XS.l2dS X179.here hx rfl (hb hby at_324) rfl rfl ?_
          refine XS.ddivS X179.here hx rfl (hb hby at_325) rfl hn209 rfl ?_
          exact kt
        obtain ⟨l5_, el5⟩ : ∃ z, z = (FP.ddiv (FP.l2d ((1 : Int64) * (i0_.toInt64))) (FP.l2d ((1 : Int64) * ((i0_.toInt64) + (i1_.toInt64))))) := ⟨_, rfl⟩
        have pre211 : ∀ t, own_S p e below m T179 326 #[lvI p0_, lvI p1_, lvI p2_, lvI p3_, lvI p4_, lvI i0_, lvI i1_, lvI i2_, lvI i3_, lvJ ((i0_.toInt64) + (i1_.toInt64)), .second, lvJ ((i2_.toInt64) + (i3_.toInt64)), .second, lvI (0 : Int32), lvJ (1 : Int64), .second, lvR b27, lvR b37, lvR b53, lvR nb2_157, lvR nb15_157, lvR nb121_157, lvJ (hi_.toInt64), .second, lvD l1_, .second, lvD l2_, .second, lvD pd1, .second, lvI hd, lvD pd2, .second, lvD l3_, .second, lvD l4_, .second, .unset, .unset] [(.double l5_)] t → G t := fun t kt => pre210 t (by rw [← el5]; exact kt)
        obtain ⟨cq212, kq212, q212a, q212b, q212c⟩ := isOf hZ e179' g157_4
        obtain ⟨_, _, ⟨T212, L212, k212, n212⟩, -, X212, ⟨Lc212, hQ212, l212, y212, z212⟩, st212⟩ := X179.virtualBack hx (y := (⟨"com/example/shortlist/shortlist/SelectionMeasures$Row", "r", "()D"⟩ : MethodName)) (z := (⟨"com/example/shortlist/shortlist/SelectionMeasures$Row", "r", "()D"⟩ : MethodName)) hown (mvT hZ (own_w hw 185 rfl)) (mvT hZ (own_w hw 186 rfl)) (notFace_of_selects (args := #[]) (mvT hZ (own_w hw 188 rfl))) (mvT hZ (own_w hw 188 rfl)) (mvT hZ (own_w hw 187 rfl)) (by decide) (backOf (W := 0) (rmRowr l Z a0 hw [] nb15_157 (FP.ddiv (FP.dadd (0 : UInt64) qr0) (FP.i2d ((0 : Int32) + (1 : Int32)))) h157 n0 f171 g157_6) hZ (own_w hw 189 rfl) (own_w hw 93 rfl) (by decide) (by decide)) q212a q212c (g := (mkF m 330 #[lvI p0_, lvI p1_, lvI p2_, lvI p3_, lvI p4_, lvI i0_, lvI i1_, lvI i2_, lvI i3_, lvJ ((i0_.toInt64) + (i1_.toInt64)), .second, lvJ ((i2_.toInt64) + (i3_.toInt64)), .second, lvI (0 : Int32), lvJ (1 : Int64), .second, lvR b27, lvR b37, lvR b53, lvR nb2_157, lvR nb15_157, lvR nb121_157, lvJ (hi_.toInt64), .second, lvD l1_, .second, lvD l2_, .second, lvD pd1, .second, lvI hd, lvD pd2, .second, lvD l3_, .second, lvD l4_, .second, lvD l5_, .second] [(.ref nb15_157)])) rfl (by rw [hml]; rfl) (Steps.refl _) (argsL := []) (rest := []) (lenOf pd_18 rfl) rfl (by show 2 * 0 + _ ≤ _; exact Nat.le_of_eq rfl) (hb hby at_330) (fun _ _ => ⟨rfl, e179', (by decide : 14 + 0 ≤ _), (by decide : 54 + 0 ≤ _)⟩)
        dsimp only [Pt.U, Pt.locs, Pt.cells, Pt.slots] at X212 l212 y212 z212 st212 hQ212
        subst l212 y212 z212
        obtain ⟨h212, e212⟩ : ∃ z, T212.heap = z := ⟨_, rfl⟩
        rw [e212] at hQ212
        obtain ⟨rfl, N212q, hh212⟩ := hQ212
        have N213 := Fr.app N180 N212q
        have e212' : T212.heap = h157 := e212.trans hh212
        have hn214 : (cmpValue (FP.dcmp (FP.ddiv (FP.dadd (0 : UInt64) qr0) (FP.i2d ((0 : Int32) + (1 : Int32)))) l1_) .l) = (0 : Int32) := by rw [el1, ← eqr0]; exact own_rr1 (own_z2 _) (by rw [Int64.zero_add]) (own_h1 HM hS).1
        obtain ⟨cq215, kq215, q215a, q215b, q215c⟩ := isOf hZ e212' g157_4
        obtain ⟨_, _, ⟨T215, L215, k215, n215⟩, -, X215, ⟨Lc215, hQ215, l215, y215, z215⟩, st215⟩ := X212.virtualBack hx (y := mn6) (z := mn6) hown (mvT hZ (own_w hw 190 rfl)) (mvT hZ (own_w hw 191 rfl)) (notFace_of_selects (args := #[]) (mvT hZ (own_w hw 193 rfl))) (mvT hZ (own_w hw 193 rfl)) (mvT hZ (own_w hw 192 rfl)) (by decide) (backOf (W := 0) (rmRowrHat l Z a0 hw [] nb15_157 (FP.ddiv (FP.dadd (0 : UInt64) qh0) (FP.i2d ((0 : Int32) + (1 : Int32)))) h157 n0 f171 g157_7) hZ (own_w hw 194 rfl) (own_w hw 93 rfl) (by decide) (by decide)) q215a q215c (g := (mkF m 341 #[lvI p0_, lvI p1_, lvI p2_, lvI p3_, lvI p4_, lvI i0_, lvI i1_, lvI i2_, lvI i3_, lvJ ((i0_.toInt64) + (i1_.toInt64)), .second, lvJ ((i2_.toInt64) + (i3_.toInt64)), .second, lvI (0 : Int32), lvJ (1 : Int64), .second, lvR b27, lvR b37, lvR b53, lvR nb2_157, lvR nb15_157, lvR nb121_157, lvJ (hi_.toInt64), .second, lvD l1_, .second, lvD l2_, .second, lvD pd1, .second, lvI hd, lvD pd2, .second, lvD l3_, .second, lvD l4_, .second, lvD l5_, .second] [(.ref nb15_157)])) rfl (by rw [hml]; rfl) (Steps.refl _) (argsL := []) (rest := []) (lenOf pd_18 rfl) rfl (by show 2 * 0 + _ ≤ _; exact Nat.le_of_eq rfl) (hb hby at_341) (fun _ _ => ⟨rfl, e212', (by decide : 14 + 0 ≤ _), (by decide : 54 + 0 ≤ _)⟩)
        dsimp only [Pt.U, Pt.locs, Pt.cells, Pt.slots] at X215 l215 y215 z215 st215 hQ215
        subst l215 y215 z215
        obtain ⟨h215, e215⟩ : ∃ z, T215.heap = z := ⟨_, rfl⟩
        rw [e215] at hQ215
        obtain ⟨rfl, N215q, hh215⟩ := hQ215
        have N216 := Fr.app N213 N215q
        have e215' : T215.heap = h157 := e215.trans hh215
        have hn217 : (cmpValue (FP.dcmp (FP.ddiv (FP.dadd (0 : UInt64) qh0) (FP.i2d ((0 : Int32) + (1 : Int32)))) l2_) .l) = (0 : Int32) := by rw [el2, ← eqh0]; exact own_rr1 (own_z2 _) (by rw [Int64.zero_add]) (own_rh HM).1
        obtain ⟨cq218, kq218, q218a, q218b, q218c⟩ := isOf hZ e215' g157_4
        obtain ⟨_, _, ⟨T218, L218, k218, n218⟩, -, X218, ⟨Lc218, hQ218, l218, y218, z218⟩, st218⟩ := X215.virtualBack hx (y := (⟨"com/example/shortlist/shortlist/SelectionMeasures$Row", "p", "()D"⟩ : MethodName)) (z := (⟨"com/example/shortlist/shortlist/SelectionMeasures$Row", "p", "()D"⟩ : MethodName)) hown (mvT hZ (own_w hw 195 rfl)) (mvT hZ (own_w hw 196 rfl)) (notFace_of_selects (args := #[]) (mvT hZ (own_w hw 198 rfl))) (mvT hZ (own_w hw 198 rfl)) (mvT hZ (own_w hw 197 rfl)) (by decide) (backOf (W := 0) (rmRowp l Z a0 hw [] nb15_157 (FP.ddiv (FP.dadd (0 : UInt64) qp0) (FP.i2d ((0 : Int32) + (1 : Int32)))) h157 n0 f171 g157_8) hZ (own_w hw 199 rfl) (own_w hw 93 rfl) (by decide) (by decide)) q218a q218c (g := (mkF m 352 #[lvI p0_, lvI p1_, lvI p2_, lvI p3_, lvI p4_, lvI i0_, lvI i1_, lvI i2_, lvI i3_, lvJ ((i0_.toInt64) + (i1_.toInt64)), .second, lvJ ((i2_.toInt64) + (i3_.toInt64)), .second, lvI (0 : Int32), lvJ (1 : Int64), .second, lvR b27, lvR b37, lvR b53, lvR nb2_157, lvR nb15_157, lvR nb121_157, lvJ (hi_.toInt64), .second, lvD l1_, .second, lvD l2_, .second, lvD pd1, .second, lvI hd, lvD pd2, .second, lvD l3_, .second, lvD l4_, .second, lvD l5_, .second] [(.ref nb15_157)])) rfl (by rw [hml]; rfl) (Steps.refl _) (argsL := []) (rest := []) (lenOf pd_18 rfl) rfl (by show 2 * 0 + _ ≤ _; exact Nat.le_of_eq rfl) (hb hby at_352) (fun _ _ => ⟨rfl, e215', (by decide : 14 + 0 ≤ _), (by decide : 54 + 0 ≤ _)⟩)
        dsimp only [Pt.U, Pt.locs, Pt.cells, Pt.slots] at X218 l218 y218 z218 st218 hQ218
        subst l218 y218 z218
        obtain ⟨h218, e218⟩ : ∃ z, T218.heap = z := ⟨_, rfl⟩
        rw [e218] at hQ218
        obtain ⟨rfl, N218q, hh218⟩ := hQ218
        have N219 := Fr.app N216 N218q
        have e218' : T218.heap = h157 := e218.trans hh218
        have hn220 : (cmpValue (FP.dcmp (FP.ddiv (FP.dadd (0 : UInt64) qp0) (FP.i2d ((0 : Int32) + (1 : Int32)))) pd1) .l) = (0 : Int32) := by rw [← eqp0]; exact own_pc1 hp0 hd1
        obtain ⟨cq221, kq221, q221a, q221b, q221c⟩ := isOf hZ e218' g157_4
        obtain ⟨_, _, ⟨T221, L221, k221, n221⟩, -, X221, ⟨Lc221, hQ221, l221, y221, z221⟩, st221⟩ := X218.virtualBack hx (y := (⟨"com/example/shortlist/shortlist/SelectionMeasures$Row", "cp", "()D"⟩ : MethodName)) (z := (⟨"com/example/shortlist/shortlist/SelectionMeasures$Row", "cp", "()D"⟩ : MethodName)) hown (mvT hZ (own_w hw 200 rfl)) (mvT hZ (own_w hw 201 rfl)) (notFace_of_selects (args := #[]) (mvT hZ (own_w hw 203 rfl))) (mvT hZ (own_w hw 203 rfl)) (mvT hZ (own_w hw 202 rfl)) (by decide) (backOf (W := 0) (rmRowcp l Z a0 hw [] nb15_157 (FP.ddiv (FP.dadd (0 : UInt64) qc0) (FP.i2d ((0 : Int32) + (1 : Int32)))) h157 n0 f171 g157_11) hZ (own_w hw 204 rfl) (own_w hw 93 rfl) (by decide) (by decide)) q221a q221c (g := (mkF m 363 #[lvI p0_, lvI p1_, lvI p2_, lvI p3_, lvI p4_, lvI i0_, lvI i1_, lvI i2_, lvI i3_, lvJ ((i0_.toInt64) + (i1_.toInt64)), .second, lvJ ((i2_.toInt64) + (i3_.toInt64)), .second, lvI (0 : Int32), lvJ (1 : Int64), .second, lvR b27, lvR b37, lvR b53, lvR nb2_157, lvR nb15_157, lvR nb121_157, lvJ (hi_.toInt64), .second, lvD l1_, .second, lvD l2_, .second, lvD pd1, .second, lvI hd, lvD pd2, .second, lvD l3_, .second, lvD l4_, .second, lvD l5_, .second] [(.ref nb15_157)])) rfl (by rw [hml]; rfl) (Steps.refl _) (argsL := []) (rest := []) (lenOf pd_18 rfl) rfl (by show 2 * 0 + _ ≤ _; exact Nat.le_of_eq rfl) (hb hby at_363) (fun _ _ => ⟨rfl, e218', (by decide : 14 + 0 ≤ _), (by decide : 54 + 0 ≤ _)⟩)
        dsimp only [Pt.U, Pt.locs, Pt.cells, Pt.slots] at X221 l221 y221 z221 st221 hQ221
        subst l221 y221 z221
        obtain ⟨h221, e221⟩ : ∃ z, T221.heap = z := ⟨_, rfl⟩
        rw [e221] at hQ221
        obtain ⟨rfl, N221q, hh221⟩ := hQ221
        have N222 := Fr.app N219 N221q
        have e221' : T221.heap = h157 := e221.trans hh221
        have hn223 : (cmpValue (FP.dcmp (FP.ddiv (FP.dadd (0 : UInt64) qc0) (FP.i2d ((0 : Int32) + (1 : Int32)))) l3_) .l) = (0 : Int32) := by rw [el3, ← eqc0]; exact own_rr1 (own_z2 _) (by rw [Int64.zero_add]) (own_cp HM).1
        obtain ⟨cq224, kq224, q224a, q224b, q224c⟩ := isOf hZ e221' g157_4
        obtain ⟨_, _, ⟨T224, L224, k224, n224⟩, -, X224, ⟨Lc224, hQ224, l224, y224, z224⟩, st224⟩ := X221.virtualBack hx (y := mn7) (z := mn7) hown (mvT hZ (own_w hw 205 rfl)) (mvT hZ (own_w hw 206 rfl)) (notFace_of_selects (args := #[]) (mvT hZ (own_w hw 208 rfl))) (mvT hZ (own_w hw 208 rfl)) (mvT hZ (own_w hw 207 rfl)) (by decide) (backOf (W := 0) (rmRowaccuracy l Z a0 hw [] nb15_157 (FP.ddiv (FP.l2d ((0 : Int64) + ((0 : Int64) + (i0_.toInt64)))) (FP.l2d ((0 : Int64) + ((0 : Int64) + (hi_.toInt64))))) h157 n0 f171 g157_9) hZ (own_w hw 209 rfl) (own_w hw 93 rfl) (by decide) (by decide)) q224a q224c (g := (mkF m 374 #[lvI p0_, lvI p1_, lvI p2_, lvI p3_, lvI p4_, lvI i0_, lvI i1_, lvI i2_, lvI i3_, lvJ ((i0_.toInt64) + (i1_.toInt64)), .second, lvJ ((i2_.toInt64) + (i3_.toInt64)), .second, lvI (0 : Int32), lvJ (1 : Int64), .second, lvR b27, lvR b37, lvR b53, lvR nb2_157, lvR nb15_157, lvR nb121_157, lvJ (hi_.toInt64), .second, lvD l1_, .second, lvD l2_, .second, lvD pd1, .second, lvI hd, lvD pd2, .second, lvD l3_, .second, lvD l4_, .second, lvD l5_, .second] [(.ref nb15_157)])) rfl (by rw [hml]; rfl) (Steps.refl _) (argsL := []) (rest := []) (lenOf pd_18 rfl) rfl (by show 2 * 0 + _ ≤ _; exact Nat.le_of_eq rfl) (hb hby at_374) (fun _ _ => ⟨rfl, e221', (by decide : 14 + 0 ≤ _), (by decide : 54 + 0 ≤ _)⟩)
        dsimp only [Pt.U, Pt.locs, Pt.cells, Pt.slots] at X224 l224 y224 z224 st224 hQ224
        subst l224 y224 z224
        obtain ⟨h224, e224⟩ : ∃ z, T224.heap = z := ⟨_, rfl⟩
        rw [e224] at hQ224
        obtain ⟨rfl, N224q, hh224⟩ := hQ224
        have N225 := Fr.app N222 N224q
        have e224' : T224.heap = h157 := e224.trans hh224
        have hn226 : (cmpValue (FP.dcmp (FP.ddiv (FP.l2d ((0 : Int64) + ((0 : Int64) + (i0_.toInt64)))) (FP.l2d ((0 : Int64) + ((0 : Int64) + (hi_.toInt64))))) l4_) .l) = (0 : Int32) := by rw [el4]; exact own_acc (by simp only [Int64.zero_add, Int64.one_mul, Int64.two_mul]) (by simp only [Int64.zero_add, Int64.one_mul, Int64.two_mul]) (own_ns1 (own_h1 HM hS).1)
        obtain ⟨cq227, kq227, q227a, q227b, q227c⟩ := isOf hZ e224' g157_4
        obtain ⟨_, _, ⟨T227, L227, k227, n227⟩, -, X227, ⟨Lc227, hQ227, l227, y227, z227⟩, st227⟩ := X224.virtualBack hx (y := mn8) (z := mn8) hown (mvT hZ (own_w hw 210 rfl)) (mvT hZ (own_w hw 211 rfl)) (notFace_of_selects (args := #[]) (mvT hZ (own_w hw 213 rfl))) (mvT hZ (own_w hw 213 rfl)) (mvT hZ (own_w hw 212 rfl)) (by decide) (backOf (W := 0) (rmRowshare l Z a0 hw [] nb15_157 (FP.ddiv (FP.l2d ((0 : Int64) + ((0 : Int64) + (i0_.toInt64)))) (FP.l2d ((0 : Int64) + (((0 : Int64) + (i0_.toInt64)) + (i1_.toInt64))))) h157 n0 f171 g157_10) hZ (own_w hw 214 rfl) (own_w hw 93 rfl) (by decide) (by decide)) q227a q227c (g := (mkF m 385 #[lvI p0_, lvI p1_, lvI p2_, lvI p3_, lvI p4_, lvI i0_, lvI i1_, lvI i2_, lvI i3_, lvJ ((i0_.toInt64) + (i1_.toInt64)), .second, lvJ ((i2_.toInt64) + (i3_.toInt64)), .second, lvI (0 : Int32), lvJ (1 : Int64), .second, lvR b27, lvR b37, lvR b53, lvR nb2_157, lvR nb15_157, lvR nb121_157, lvJ (hi_.toInt64), .second, lvD l1_, .second, lvD l2_, .second, lvD pd1, .second, lvI hd, lvD pd2, .second, lvD l3_, .second, lvD l4_, .second, lvD l5_, .second] [(.ref nb15_157)])) rfl (by rw [hml]; rfl) (Steps.refl _) (argsL := []) (rest := []) (lenOf pd_18 rfl) rfl (by show 2 * 0 + _ ≤ _; exact Nat.le_of_eq rfl) (hb hby at_385) (fun _ _ => ⟨rfl, e224', (by decide : 14 + 0 ≤ _), (by decide : 54 + 0 ≤ _)⟩)
        dsimp only [Pt.U, Pt.locs, Pt.cells, Pt.slots] at X227 l227 y227 z227 st227 hQ227
        subst l227 y227 z227
        obtain ⟨h227, e227⟩ : ∃ z, T227.heap = z := ⟨_, rfl⟩
        rw [e227] at hQ227
        obtain ⟨rfl, N227q, hh227⟩ := hQ227
        have N228 := Fr.app N225 N227q
        have e227' : T227.heap = h157 := e227.trans hh227
        have hn229 : (cmpValue (FP.dcmp (FP.ddiv (FP.l2d ((0 : Int64) + ((0 : Int64) + (i0_.toInt64)))) (FP.l2d ((0 : Int64) + (((0 : Int64) + (i0_.toInt64)) + (i1_.toInt64))))) l5_) .l) = (0 : Int32) := by rw [el5]; exact own_acc (by simp only [Int64.zero_add, Int64.one_mul, Int64.two_mul]) (by simp only [Int64.zero_add, Int64.one_mul, Int64.two_mul]) (own_ns1 (own_rh HM).1)
        obtain ⟨cq230, kq230, q230a, q230b, q230c⟩ := isOf hZ e227' g157_14
        obtain ⟨_, _, ⟨T230, L230, k230, n230⟩, -, X230, ⟨Lc230, hQ230, l230, y230, z230⟩, st230⟩ := X227.virtualBack hx (y := (⟨"com/example/shortlist/shortlist/SelectionMeasures$Row", "p", "()D"⟩ : MethodName)) (z := (⟨"com/example/shortlist/shortlist/SelectionMeasures$Row", "p", "()D"⟩ : MethodName)) hown (mvT hZ (own_w hw 195 rfl)) (mvT hZ (own_w hw 196 rfl)) (notFace_of_selects (args := #[]) (mvT hZ (own_w hw 198 rfl))) (mvT hZ (own_w hw 198 rfl)) (mvT hZ (own_w hw 197 rfl)) (by decide) (backOf (W := 0) (rmRowp l Z a0 hw [] nb121_157 (FP.ddiv (FP.dadd (0 : UInt64) qp1) (FP.i2d ((0 : Int32) + (1 : Int32)))) h157 n0 f171 g157_18) hZ (own_w hw 199 rfl) (own_w hw 93 rfl) (by decide) (by decide)) q230a q230c (g := (mkF m 396 #[lvI p0_, lvI p1_, lvI p2_, lvI p3_, lvI p4_, lvI i0_, lvI i1_, lvI i2_, lvI i3_, lvJ ((i0_.toInt64) + (i1_.toInt64)), .second, lvJ ((i2_.toInt64) + (i3_.toInt64)), .second, lvI (0 : Int32), lvJ (1 : Int64), .second, lvR b27, lvR b37, lvR b53, lvR nb2_157, lvR nb15_157, lvR nb121_157, lvJ (hi_.toInt64), .second, lvD l1_, .second, lvD l2_, .second, lvD pd1, .second, lvI hd, lvD pd2, .second, lvD l3_, .second, lvD l4_, .second, lvD l5_, .second] [(.ref nb121_157)])) rfl (by rw [hml]; rfl) (Steps.refl _) (argsL := []) (rest := []) (lenOf pd_18 rfl) rfl (by show 2 * 0 + _ ≤ _; exact Nat.le_of_eq rfl) (hb hby at_396) (fun _ _ => ⟨rfl, e227', (by decide : 14 + 0 ≤ _), (by decide : 54 + 0 ≤ _)⟩)
        dsimp only [Pt.U, Pt.locs, Pt.cells, Pt.slots] at X230 l230 y230 z230 st230 hQ230
        subst l230 y230 z230
        obtain ⟨h230, e230⟩ : ∃ z, T230.heap = z := ⟨_, rfl⟩
        rw [e230] at hQ230
        obtain ⟨rfl, N230q, hh230⟩ := hQ230
        have N231 := Fr.app N228 N230q
        have e230' : T230.heap = h157 := e230.trans hh230
        have hn232 : (cmpValue (FP.dcmp (FP.ddiv (FP.dadd (0 : UInt64) qp1) (FP.i2d ((0 : Int32) + (1 : Int32)))) pd2) .l) = (0 : Int32) := by rw [← eqp1]; exact own_pq1 hp0 hp1 hd2
        have pre233 : ∀ t, own_S p e below m T230 410 #[lvI p0_, lvI p1_, lvI p2_, lvI p3_, lvI p4_, lvI i0_, lvI i1_, lvI i2_, lvI i3_, lvJ ((i0_.toInt64) + (i1_.toInt64)), .second, lvJ ((i2_.toInt64) + (i3_.toInt64)), .second, lvI (0 : Int32), lvJ (1 : Int64), .second, lvR b27, lvR b37, lvR b53, lvR nb2_157, lvR nb15_157, lvR nb121_157, lvJ (hi_.toInt64), .second, lvD l1_, .second, lvD l2_, .second, lvD pd1, .second, lvI hd, lvD pd2, .second, lvD l3_, .second, lvD l4_, .second, lvD l5_, .second] [(.int (1 : Int32))] t → G t := by
          intro t kt
          refine pre211 t ?_
          show own_S p e below m T179 326 #[lvI p0_, lvI p1_, lvI p2_, lvI p3_, lvI p4_, lvI i0_, lvI i1_, lvI i2_, lvI i3_, lvJ ((i0_.toInt64) + (i1_.toInt64)), .second, lvJ ((i2_.toInt64) + (i3_.toInt64)), .second, lvI (0 : Int32), lvJ (1 : Int64), .second, lvR b27, lvR b37, lvR b53, lvR nb2_157, lvR nb15_157, lvR nb121_157, lvJ (hi_.toInt64), .second, lvD l1_, .second, lvD l2_, .second, lvD pd1, .second, lvI hd, lvD pd2, .second, lvD l3_, .second, lvD l4_, .second, .unset, .unset] [(.double l5_)] _
          refine XS.dstore X179.here hx rfl (hb hby at_326) rfl (l' := #[lvI p0_, lvI p1_, lvI p2_, lvI p3_, lvI p4_, lvI i0_, lvI i1_, lvI i2_, lvI i3_, lvJ ((i0_.toInt64) + (i1_.toInt64)), .second, lvJ ((i2_.toInt64) + (i3_.toInt64)), .second, lvI (0 : Int32), lvJ (1 : Int64), .second, lvR b27, lvR b37, lvR b53, lvR nb2_157, lvR nb15_157, lvR nb121_157, lvJ (hi_.toInt64), .second, lvD l1_, .second, lvD l2_, .second, lvD pd1, .second, lvI hd, lvD pd2, .second, lvD l3_, .second, lvD l4_, .second, lvD l5_, .second]) rfl ?_
          refine XS.aload X179.here hx rfl (hb hby at_328) rfl rfl ?_
          show own_S p e below m T179 330 #[lvI p0_, lvI p1_, lvI p2_, lvI p3_, lvI p4_, lvI i0_, lvI i1_, lvI i2_, lvI i3_, lvJ ((i0_.toInt64) + (i1_.toInt64)), .second, lvJ ((i2_.toInt64) + (i3_.toInt64)), .second, lvI (0 : Int32), lvJ (1 : Int64), .second, lvR b27, lvR b37, lvR b53, lvR nb2_157, lvR nb15_157, lvR nb121_157, lvJ (hi_.toInt64), .second, lvD l1_, .second, lvD l2_, .second, lvD pd1, .second, lvI hd, lvD pd2, .second, lvD l3_, .second, lvD l4_, .second, lvD l5_, .second] [(.ref nb15_157)] _
          refine st212.trans ?_
          refine XS.dload X212.here hx rfl (hb hby at_333) rfl ?_
          refine XS.dcmpS X212.here hx rfl (hb hby at_335) rfl rfl ?_
          show own_S p e below m T212 336 #[lvI p0_, lvI p1_, lvI p2_, lvI p3_, lvI p4_, lvI i0_, lvI i1_, lvI i2_, lvI i3_, lvJ ((i0_.toInt64) + (i1_.toInt64)), .second, lvJ ((i2_.toInt64) + (i3_.toInt64)), .second, lvI (0 : Int32), lvJ (1 : Int64), .second, lvR b27, lvR b37, lvR b53, lvR nb2_157, lvR nb15_157, lvR nb121_157, lvJ (hi_.toInt64), .second, lvD l1_, .second, lvD l2_, .second, lvD pd1, .second, lvI hd, lvD pd2, .second, lvD l3_, .second, lvD l4_, .second, lvD l5_, .second] [(.int (cmpValue (FP.dcmp (FP.ddiv (FP.dadd (0 : UInt64) qr0) (FP.i2d ((0 : Int32) + (1 : Int32)))) l1_) .l))] _
          refine XS.ifNo X212.here hx rfl (hb hby at_336) rfl ((if0 _ _).trans (teq hn214).2) ?_
          refine XS.aload X212.here hx rfl (hb hby at_339) rfl rfl ?_
          show own_S p e below m T212 341 #[lvI p0_, lvI p1_, lvI p2_, lvI p3_, lvI p4_, lvI i0_, lvI i1_, lvI i2_, lvI i3_, lvJ ((i0_.toInt64) + (i1_.toInt64)), .second, lvJ ((i2_.toInt64) + (i3_.toInt64)), .second, lvI (0 : Int32), lvJ (1 : Int64), .second, lvR b27, lvR b37, lvR b53, lvR nb2_157, lvR nb15_157, lvR nb121_157, lvJ (hi_.toInt64), .second, lvD l1_, .second, lvD l2_, .second, lvD pd1, .second, lvI hd, lvD pd2, .second, lvD l3_, .second, lvD l4_, .second, lvD l5_, .second] [(.ref nb15_157)] _
          refine st215.trans ?_
          refine XS.dload X215.here hx rfl (hb hby at_344) rfl ?_
          refine XS.dcmpS X215.here hx rfl (hb hby at_346) rfl rfl ?_
          show own_S p e below m T215 347 #[lvI p0_, lvI p1_, lvI p2_, lvI p3_, lvI p4_, lvI i0_, lvI i1_, lvI i2_, lvI i3_, lvJ ((i0_.toInt64) + (i1_.toInt64)), .second, lvJ ((i2_.toInt64) + (i3_.toInt64)), .second, lvI (0 : Int32), lvJ (1 : Int64), .second, lvR b27, lvR b37, lvR b53, lvR nb2_157, lvR nb15_157, lvR nb121_157, lvJ (hi_.toInt64), .second, lvD l1_, .second, lvD l2_, .second, lvD pd1, .second, lvI hd, lvD pd2, .second, lvD l3_, .second, lvD l4_, .second, lvD l5_, .second] [(.int (cmpValue (FP.dcmp (FP.ddiv (FP.dadd (0 : UInt64) qh0) (FP.i2d ((0 : Int32) + (1 : Int32)))) l2_) .l))] _
          refine XS.ifNo X215.here hx rfl (hb hby at_347) rfl ((if0 _ _).trans (teq hn217).2) ?_
          refine XS.aload X215.here hx rfl (hb hby at_350) rfl rfl ?_
          show own_S p e below m T215 352 #[lvI p0_, lvI p1_, lvI p2_, lvI p3_, lvI p4_, lvI i0_, lvI i1_, lvI i2_, lvI i3_, lvJ ((i0_.toInt64) + (i1_.toInt64)), .second, lvJ ((i2_.toInt64) + (i3_.toInt64)), .second, lvI (0 : Int32), lvJ (1 : Int64), .second, lvR b27, lvR b37, lvR b53, lvR nb2_157, lvR nb15_157, lvR nb121_157, lvJ (hi_.toInt64), .second, lvD l1_, .second, lvD l2_, .second, lvD pd1, .second, lvI hd, lvD pd2, .second, lvD l3_, .second, lvD l4_, .second, lvD l5_, .second] [(.ref nb15_157)] _
          refine st218.trans ?_
          refine XS.dload X218.here hx rfl (hb hby at_355) rfl ?_
          refine XS.dcmpS X218.here hx rfl (hb hby at_357) rfl rfl ?_
          show own_S p e below m T218 358 #[lvI p0_, lvI p1_, lvI p2_, lvI p3_, lvI p4_, lvI i0_, lvI i1_, lvI i2_, lvI i3_, lvJ ((i0_.toInt64) + (i1_.toInt64)), .second, lvJ ((i2_.toInt64) + (i3_.toInt64)), .second, lvI (0 : Int32), lvJ (1 : Int64), .second, lvR b27, lvR b37, lvR b53, lvR nb2_157, lvR nb15_157, lvR nb121_157, lvJ (hi_.toInt64), .second, lvD l1_, .second, lvD l2_, .second, lvD pd1, .second, lvI hd, lvD pd2, .second, lvD l3_, .second, lvD l4_, .second, lvD l5_, .second] [(.int (cmpValue (FP.dcmp (FP.ddiv (FP.dadd (0 : UInt64) qp0) (FP.i2d ((0 : Int32) + (1 : Int32)))) pd1) .l))] _
          refine XS.ifNo X218.here hx rfl (hb hby at_358) rfl ((if0 _ _).trans (teq hn220).2) ?_
          refine XS.aload X218.here hx rfl (hb hby at_361) rfl rfl ?_
          show own_S p e below m T218 363 #[lvI p0_, lvI p1_, lvI p2_, lvI p3_, lvI p4_, lvI i0_, lvI i1_, lvI i2_, lvI i3_, lvJ ((i0_.toInt64) + (i1_.toInt64)), .second, lvJ ((i2_.toInt64) + (i3_.toInt64)), .second, lvI (0 : Int32), lvJ (1 : Int64), .second, lvR b27, lvR b37, lvR b53, lvR nb2_157, lvR nb15_157, lvR nb121_157, lvJ (hi_.toInt64), .second, lvD l1_, .second, lvD l2_, .second, lvD pd1, .second, lvI hd, lvD pd2, .second, lvD l3_, .second, lvD l4_, .second, lvD l5_, .second] [(.ref nb15_157)] _
          refine st221.trans ?_
          refine XS.dload X221.here hx rfl (hb hby at_366) rfl ?_
          refine XS.dcmpS X221.here hx rfl (hb hby at_368) rfl rfl ?_
          show own_S p e below m T221 369 #[lvI p0_, lvI p1_, lvI p2_, lvI p3_, lvI p4_, lvI i0_, lvI i1_, lvI i2_, lvI i3_, lvJ ((i0_.toInt64) + (i1_.toInt64)), .second, lvJ ((i2_.toInt64) + (i3_.toInt64)), .second, lvI (0 : Int32), lvJ (1 : Int64), .second, lvR b27, lvR b37, lvR b53, lvR nb2_157, lvR nb15_157, lvR nb121_157, lvJ (hi_.toInt64), .second, lvD l1_, .second, lvD l2_, .second, lvD pd1, .second, lvI hd, lvD pd2, .second, lvD l3_, .second, lvD l4_, .second, lvD l5_, .second] [(.int (cmpValue (FP.dcmp (FP.ddiv (FP.dadd (0 : UInt64) qc0) (FP.i2d ((0 : Int32) + (1 : Int32)))) l3_) .l))] _
          refine XS.ifNo X221.here hx rfl (hb hby at_369) rfl ((if0 _ _).trans (teq hn223).2) ?_
          refine XS.aload X221.here hx rfl (hb hby at_372) rfl rfl ?_
          show own_S p e below m T221 374 #[lvI p0_, lvI p1_, lvI p2_, lvI p3_, lvI p4_, lvI i0_, lvI i1_, lvI i2_, lvI i3_, lvJ ((i0_.toInt64) + (i1_.toInt64)), .second, lvJ ((i2_.toInt64) + (i3_.toInt64)), .second, lvI (0 : Int32), lvJ (1 : Int64), .second, lvR b27, lvR b37, lvR b53, lvR nb2_157, lvR nb15_157, lvR nb121_157, lvJ (hi_.toInt64), .second, lvD l1_, .second, lvD l2_, .second, lvD pd1, .second, lvI hd, lvD pd2, .second, lvD l3_, .second, lvD l4_, .second, lvD l5_, .second] [(.ref nb15_157)] _
          refine st224.trans ?_
          refine XS.dload X224.here hx rfl (hb hby at_377) rfl ?_
          refine XS.dcmpS X224.here hx rfl (hb hby at_379) rfl rfl ?_
          show own_S p e below m T224 380 #[lvI p0_, lvI p1_, lvI p2_, lvI p3_, lvI p4_, lvI i0_, lvI i1_, lvI i2_, lvI i3_, lvJ ((i0_.toInt64) + (i1_.toInt64)), .second, lvJ ((i2_.toInt64) + (i3_.toInt64)), .second, lvI (0 : Int32), lvJ (1 : Int64), .second, lvR b27, lvR b37, lvR b53, lvR nb2_157, lvR nb15_157, lvR nb121_157, lvJ (hi_.toInt64), .second, lvD l1_, .second, lvD l2_, .second, lvD pd1, .second, lvI hd, lvD pd2, .second, lvD l3_, .second, lvD l4_, .second, lvD l5_, .second] [(.int (cmpValue (FP.dcmp (FP.ddiv (FP.l2d ((0 : Int64) + ((0 : Int64) + (i0_.toInt64)))) (FP.l2d ((0 : Int64) + ((0 : Int64) + (hi_.toInt64))))) l4_) .l))] _
          refine XS.ifNo X224.here hx rfl (hb hby at_380) rfl ((if0 _ _).trans (teq hn226).2) ?_
          refine XS.aload X224.here hx rfl (hb hby at_383) rfl rfl ?_
          show own_S p e below m T224 385 #[lvI p0_, lvI p1_, lvI p2_, lvI p3_, lvI p4_, lvI i0_, lvI i1_, lvI i2_, lvI i3_, lvJ ((i0_.toInt64) + (i1_.toInt64)), .second, lvJ ((i2_.toInt64) + (i3_.toInt64)), .second, lvI (0 : Int32), lvJ (1 : Int64), .second, lvR b27, lvR b37, lvR b53, lvR nb2_157, lvR nb15_157, lvR nb121_157, lvJ (hi_.toInt64), .second, lvD l1_, .second, lvD l2_, .second, lvD pd1, .second, lvI hd, lvD pd2, .second, lvD l3_, .second, lvD l4_, .second, lvD l5_, .second] [(.ref nb15_157)] _
          refine st227.trans ?_
          refine XS.dload X227.here hx rfl (hb hby at_388) rfl ?_
          refine XS.dcmpS X227.here hx rfl (hb hby at_390) rfl rfl ?_
          show own_S p e below m T227 391 #[lvI p0_, lvI p1_, lvI p2_, lvI p3_, lvI p4_, lvI i0_, lvI i1_, lvI i2_, lvI i3_, lvJ ((i0_.toInt64) + (i1_.toInt64)), .second, lvJ ((i2_.toInt64) + (i3_.toInt64)), .second, lvI (0 : Int32), lvJ (1 : Int64), .second, lvR b27, lvR b37, lvR b53, lvR nb2_157, lvR nb15_157, lvR nb121_157, lvJ (hi_.toInt64), .second, lvD l1_, .second, lvD l2_, .second, lvD pd1, .second, lvI hd, lvD pd2, .second, lvD l3_, .second, lvD l4_, .second, lvD l5_, .second] [(.int (cmpValue (FP.dcmp (FP.ddiv (FP.l2d ((0 : Int64) + ((0 : Int64) + (i0_.toInt64)))) (FP.l2d ((0 : Int64) + (((0 : Int64) + (i0_.toInt64)) + (i1_.toInt64))))) l5_) .l))] _
          refine XS.ifNo X227.here hx rfl (hb hby at_391) rfl ((if0 _ _).trans (teq hn229).2) ?_
          refine XS.aload X227.here hx rfl (hb hby at_394) rfl rfl ?_
          show own_S p e below m T227 396 #[lvI p0_, lvI p1_, lvI p2_, lvI p3_, lvI p4_, lvI i0_, lvI i1_, lvI i2_, lvI i3_, lvJ ((i0_.toInt64) + (i1_.toInt64)), .second, lvJ ((i2_.toInt64) + (i3_.toInt64)), .second, lvI (0 : Int32), lvJ (1 : Int64), .second, lvR b27, lvR b37, lvR b53, lvR nb2_157, lvR nb15_157, lvR nb121_157, lvJ (hi_.toInt64), .second, lvD l1_, .second, lvD l2_, .second, lvD pd1, .second, lvI hd, lvD pd2, .second, lvD l3_, .second, lvD l4_, .second, lvD l5_, .second] [(.ref nb121_157)] _
          refine st230.trans ?_
          refine XS.dload X230.here hx rfl (hb hby at_399) rfl ?_
          refine XS.dcmpS X230.here hx rfl (hb hby at_401) rfl rfl ?_
          show own_S p e below m T230 402 #[lvI p0_, lvI p1_, lvI p2_, lvI p3_, lvI p4_, lvI i0_, lvI i1_, lvI i2_, lvI i3_, lvJ ((i0_.toInt64) + (i1_.toInt64)), .second, lvJ ((i2_.toInt64) + (i3_.toInt64)), .second, lvI (0 : Int32), lvJ (1 : Int64), .second, lvR b27, lvR b37, lvR b53, lvR nb2_157, lvR nb15_157, lvR nb121_157, lvJ (hi_.toInt64), .second, lvD l1_, .second, lvD l2_, .second, lvD pd1, .second, lvI hd, lvD pd2, .second, lvD l3_, .second, lvD l4_, .second, lvD l5_, .second] [(.int (cmpValue (FP.dcmp (FP.ddiv (FP.dadd (0 : UInt64) qp1) (FP.i2d ((0 : Int32) + (1 : Int32)))) pd2) .l))] _
          refine XS.ifNo X230.here hx rfl (hb hby at_402) rfl ((if0 _ _).trans (teq hn232).2) ?_
          refine XS.iconst X230.here hx rfl (hb hby at_405) ?_
          refine XS.goto X230.here hx rfl (pc0 := 406) (pc' := 410) rfl (hb hby at_406) (by decide) (by decide) ?_
          exact kt
        obtain ⟨fs, hr, hrun, hended, hW, hsame⟩ := X230.leave (v := some (.int (1 : Int32))) (fun h => by rw [Bd.returns] at h; cases h)
        refine ⟨_, _, hG _ (pre233 _ (retN X230 hx (t := .boolean) Bd.returns (by simp) (hb hby at_410) hr)), hrun, hended, _, _, rfl, ?_, ⟨_, rfl⟩, hW, hsame.mono (by decide) (by decide)⟩
        show QLaw Z p0_ p1_ p2_ p3_ p4_ w_DEFAULTCAPACITY_EMPTY_ELEMENTDATA w_EMPTY_ELEMENTDATA k_w_EMPTY_ELEMENTDATA k_w_DEFAULTCAPACITY_EMPTY_ELEMENTDATA h0 n0 _ T230.heap _
        rw [e230']
        exact ⟨rfl, N231⟩
      · have pre235 : ∀ t, own_S p e below m T103 139 #[lvI p0_, lvI p1_, lvI p2_, lvI p3_, lvI p4_, lvI i0_, lvI i1_, lvI i2_, lvI i3_, lvJ ((i0_.toInt64) + (i1_.toInt64)), .second, lvJ ((i2_.toInt64) + (i3_.toInt64)), .second, lvI (1 : Int32), lvJ kk_, .second, lvR b27, lvR b37, lvR b53, .unset, .unset, .unset, .unset, .unset, .unset, .unset, .unset, .unset, .unset, .unset, .unset, .unset, .unset, .unset, .unset, .unset, .unset, .unset, .unset] [] t → G t := fun t kt => pre141 t (by rw [hz1_]; exact kt)
        have pre236 : ∀ t, own_S p e below m T103 139 #[lvI p0_, lvI p1_, lvI p2_, lvI p3_, lvI p4_, lvI i0_, lvI i1_, lvI i2_, lvI i3_, lvJ ((i0_.toInt64) + (i1_.toInt64)), .second, lvJ ((i2_.toInt64) + (i3_.toInt64)), .second, lvI (1 : Int32), lvJ (2 : Int64), .second, lvR b27, lvR b37, lvR b53, .unset, .unset, .unset, .unset, .unset, .unset, .unset, .unset, .unset, .unset, .unset, .unset, .unset, .unset, .unset, .unset, .unset, .unset, .unset, .unset] [] t → G t := fun t kt => pre235 t (by rw [hk1_]; exact kt)
        have hn237 : Jvm.Free.Fl.NoNaN64 (FP.dadd (FP.dadd (0 : UInt64) qr0) qr0) := by rw [← eqr0]; exact (own_A (own_h1 HM hS).1).2.2.2.1
        have hn238 : Jvm.Free.Fl.NoNaN64 (FP.dadd (FP.dadd (0 : UInt64) qr1) qr1) := by rw [← eqr1]; exact (own_A (own_h1 HM hS).2).2.2.2.1
        have hn239 : Jvm.Free.Fl.NoNaN64 (FP.dadd (FP.dadd (0 : UInt64) qh0) qh0) := by rw [← eqh0]; exact (own_A (own_rh HM).1).2.2.2.1
        have hn240 : Jvm.Free.Fl.NoNaN64 (FP.dadd (FP.dadd (0 : UInt64) qh1) qh1) := by rw [← eqh1]; exact (own_A (own_rh HM).2).2.2.2.1
        have hn241 : Jvm.Free.Fl.NoNaN64 (FP.dadd (FP.dadd (0 : UInt64) qp0) qp0) := by rw [← eqp0]; exact (own_P0 hp0 hp1).2.2.2.1
        have hn242 : Jvm.Free.Fl.NoNaN64 (FP.dadd (FP.dadd (0 : UInt64) qp1) qp1) := by rw [← eqp1]; exact (own_P1 hp0 hp1).2.2.2.1
        have hn243 : Jvm.Free.Fl.NoNaN64 (FP.dadd (FP.dadd (0 : UInt64) qc0) qc0) := by rw [← eqc0]; exact (own_A (own_cp HM).1).2.2.2.1
        have hn244 : Jvm.Free.Fl.NoNaN64 (FP.dadd (FP.dadd (0 : UInt64) qc1) qc1) := by rw [← eqc1]; exact (own_A (own_cp HM).2).2.2.2.1
        have f246 : Exa Z h103 b27 "[I" := f110.keep K103
        have f247 : Arv Z h103 b27 k27 .int (2 : Int32) [(.int i0_), (.int i1_)] (.int (0 : Int32)) := f116.keep K103 (ninS ne127 (ninS ne128 (ninS ne129 (ninS ne130 (ninS ne131 (ninS ne132 (ninS ne117 nin0)))))))
        have f248 : Arv Z h103 b37 k37 .int (2 : Int32) [(.int i2_), (.int i3_)] (.int (0 : Int32)) := f119.keep K103 (ninS ne133 (ninS ne134 (ninS ne135 (ninS ne136 (ninS ne137 (ninS ne138 (ninS ne120 nin0)))))))
        have f249 : Old Z n0 h103 := f139.keep K103 (allS (ge74) (allS (ge77) (allS (ge79) (allS (ge81) (allS (ge83) (allS (ge85) (allS (ge57) all0)))))))
        obtain ⟨cq245, kq245, q245a, q245b, q245c⟩ := isOf hZ e103 g103_0
        obtain ⟨_, _, ⟨T245, L245, k245, n245⟩, -, X245, ⟨Lc245, hQ245, l245, y245, z245⟩, st245⟩ := X103.virtualBack hx (y := (⟨"com/example/shortlist/shortlist/SelectionMeasures", "add", "([I[I)V"⟩ : MethodName)) (z := (⟨"com/example/shortlist/shortlist/SelectionMeasures", "add", "([I[I)V"⟩ : MethodName)) hown (mvT hZ (own_w hw 27 rfl)) (mvT hZ (own_w hw 28 rfl)) (notFace_of_selects (args := #[]) (mvT hZ (own_w hw 30 rfl))) (mvT hZ (own_w hw 30 rfl)) (mvT hZ (own_w hw 29 rfl)) (by decide) (backOf (W := 0) (rmAdd l Z a0 hw [] b53 ((0 : Int32) + (1 : Int32)) ((0 : Int64) + (((0 : Int64) + (i0_.toInt64)) + (i1_.toInt64))) nb5_71 k5_71 (FP.dadd (0 : UInt64) qr0) (FP.dadd (0 : UInt64) qr1) nb18_71 k18_71 (FP.dadd (0 : UInt64) qh0) (FP.dadd (0 : UInt64) qh1) nb35_71 k35_71 (FP.dadd (0 : UInt64) qp0) (FP.dadd (0 : UInt64) qp1) nb54_71 k54_71 (FP.dadd (0 : UInt64) qc0) (FP.dadd (0 : UInt64) qc1) nb75_71 k75_71 ((0 : Int64) + ((0 : Int64) + (i0_.toInt64))) ((0 : Int64) + (((0 : Int64) + (i0_.toInt64)) + (i1_.toInt64))) nb98_71 k98_71 ((0 : Int64) + ((0 : Int64) + (hi_.toInt64))) ((0 : Int64) + (((0 : Int64) + (hi_.toInt64)) + (lo_.toInt64))) b27 k27 b37 k37 i0_ i1_ i2_ i3_ lo_ hi_ c0_ c1_ qr0 qr1 qh0 qh1 qp0 qp1 qc0 qc1 h103 n0 f249 hn3 hn5 hn7 hn9 hn19 hn20 hS hp0 hp1 eqr0 eqr1 eqh0 eqh1 eqp0 eqp1 eqc0 eqc1 hn87 hn89 hn91 hn93 hn95 hn97 hn99 hn101 hn237 hn238 hn239 hn240 hn241 hn242 hn243 hn244 g103_0 g103_1 g103_2 g103_3 g103_4 g103_5 g103_6 g103_7 g103_8 g103_9 g103_10 g103_11 g103_12 g103_13 g103_14 g103_15 f246 f247 f248 ge74 ne121 (Ne.symm nenb5_nb18_71) ge77 ne122 (Ne.symm nenb5_nb35_71) (Ne.symm nenb18_nb35_71) ge79 ne123 (Ne.symm nenb5_nb54_71) (Ne.symm nenb18_nb54_71) (Ne.symm nenb35_nb54_71) ge81 ne124 (Ne.symm nenb5_nb75_71) (Ne.symm nenb18_nb75_71) (Ne.symm nenb35_nb75_71) (Ne.symm nenb54_nb75_71) ge83 ne125 (Ne.symm nenb5_nb98_71) (Ne.symm nenb18_nb98_71) (Ne.symm nenb35_nb98_71) (Ne.symm nenb54_nb98_71) (Ne.symm nenb75_nb98_71) ge85 ne126 ne127 ne128 ne129 ne130 ne131 ne132 ne133 ne134 ne135 ne136 ne137 ne138 ge57) hZ (own_w hw 31 rfl) (own_w hw 4 rfl) (by decide) (by decide)) q245a q245c (g := (mkF m 150 #[lvI p0_, lvI p1_, lvI p2_, lvI p3_, lvI p4_, lvI i0_, lvI i1_, lvI i2_, lvI i3_, lvJ ((i0_.toInt64) + (i1_.toInt64)), .second, lvJ ((i2_.toInt64) + (i3_.toInt64)), .second, lvI (1 : Int32), lvJ (2 : Int64), .second, lvR b27, lvR b37, lvR b53, .unset, .unset, .unset, .unset, .unset, .unset, .unset, .unset, .unset, .unset, .unset, .unset, .unset, .unset, .unset, .unset, .unset, .unset, .unset, .unset] [(.ref b37), (.ref b27), (.ref b53)])) rfl (by rw [hml]; rfl) (Steps.refl _) (argsL := [(.ref b27), (.ref b37)]) (rest := []) (lenOf pd_15 rfl) rfl (by show 2 * 0 + _ ≤ _; exact Nat.le_of_eq rfl) (hb hby at_150) (fun _ _ => ⟨rfl, e103, (by decide : 10 + 1 ≤ _), (by decide : 27 + 2 ≤ _)⟩)
        dsimp only [Pt.U, Pt.locs, Pt.cells, Pt.slots] at X245 l245 y245 z245 st245 hQ245
        subst l245 y245 z245
        obtain ⟨h245, e245⟩ : ∃ z, T245.heap = z := ⟨_, rfl⟩
        rw [e245] at hQ245
        obtain ⟨rfl, N245q, K245, g245_0, g245_1, g245_2, g245_3, g245_4, g245_5, g245_6, g245_7, g245_8, g245_9, g245_10, g245_11, g245_12, g245_13, g245_14, g245_15⟩ := hQ245
        have N250 := Fr.app N140 N245q
        have hn251 : ¬ ((((0 : Int32) + (1 : Int32)) + (1 : Int32)) = (0 : Int32)) := by decide
        have hn252 : Jvm.Free.Fl.NoNaN64 (FP.ddiv (FP.dadd (FP.dadd (0 : UInt64) qr0) qr0) (FP.i2d (((0 : Int32) + (1 : Int32)) + (1 : Int32)))) := by rw [← eqr0]; exact (own_A (own_h1 HM hS).1).2.2.2.2.1
        have hn253 : Jvm.Free.Fl.NoNaN64 (FP.ddiv (FP.dadd (FP.dadd (0 : UInt64) qr1) qr1) (FP.i2d (((0 : Int32) + (1 : Int32)) + (1 : Int32)))) := by rw [← eqr1]; exact (own_A (own_h1 HM hS).2).2.2.2.2.1
        have hn254 : Jvm.Free.Fl.NoNaN64 (FP.ddiv (FP.dadd (FP.dadd (0 : UInt64) qh0) qh0) (FP.i2d (((0 : Int32) + (1 : Int32)) + (1 : Int32)))) := by rw [← eqh0]; exact (own_A (own_rh HM).1).2.2.2.2.1
        have hn255 : Jvm.Free.Fl.NoNaN64 (FP.ddiv (FP.dadd (FP.dadd (0 : UInt64) qh1) qh1) (FP.i2d (((0 : Int32) + (1 : Int32)) + (1 : Int32)))) := by rw [← eqh1]; exact (own_A (own_rh HM).2).2.2.2.2.1
        have hn256 : Jvm.Free.Fl.NoNaN64 (FP.ddiv (FP.dadd (FP.dadd (0 : UInt64) qp0) qp0) (FP.i2d (((0 : Int32) + (1 : Int32)) + (1 : Int32)))) := by rw [← eqp0]; exact (own_P0 hp0 hp1).2.2.2.2
        have hn257 : Jvm.Free.Fl.NoNaN64 (FP.ddiv (FP.dadd (FP.dadd (0 : UInt64) qp1) qp1) (FP.i2d (((0 : Int32) + (1 : Int32)) + (1 : Int32)))) := by rw [← eqp1]; exact (own_P1 hp0 hp1).2.2.2.2
        have hn258 : Jvm.Free.Fl.NoNaN64 (FP.ddiv (FP.dadd (FP.dadd (0 : UInt64) qc0) qc0) (FP.i2d (((0 : Int32) + (1 : Int32)) + (1 : Int32)))) := by rw [← eqc0]; exact (own_A (own_cp HM).1).2.2.2.2.1
        have hn259 : Jvm.Free.Fl.NoNaN64 (FP.ddiv (FP.dadd (FP.dadd (0 : UInt64) qc1) qc1) (FP.i2d (((0 : Int32) + (1 : Int32)) + (1 : Int32)))) := by rw [← eqc1]; exact (own_A (own_cp HM).2).2.2.2.2.1
        have hn260 : Jvm.Free.Fl.NoNaN64 (FP.ddiv (FP.l2d (((0 : Int64) + ((0 : Int64) + (i0_.toInt64))) + ((0 : Int64) + (i0_.toInt64)))) (FP.l2d (((0 : Int64) + ((0 : Int64) + (hi_.toInt64))) + ((0 : Int64) + (hi_.toInt64))))) := own_ns2 (own_h1 HM hS).1
        have hn261 : Jvm.Free.Fl.NoNaN64 (FP.ddiv (FP.l2d (((0 : Int64) + (((0 : Int64) + (i0_.toInt64)) + (i1_.toInt64))) + (((0 : Int64) + (i0_.toInt64)) + (i1_.toInt64)))) (FP.l2d (((0 : Int64) + (((0 : Int64) + (hi_.toInt64)) + (lo_.toInt64))) + (((0 : Int64) + (hi_.toInt64)) + (lo_.toInt64))))) := own_ns2 (own_h1 HM hS).2
        have hn262 : Jvm.Free.Fl.NoNaN64 (FP.ddiv (FP.l2d (((0 : Int64) + ((0 : Int64) + (i0_.toInt64))) + ((0 : Int64) + (i0_.toInt64)))) (FP.l2d (((0 : Int64) + (((0 : Int64) + (i0_.toInt64)) + (i1_.toInt64))) + (((0 : Int64) + (i0_.toInt64)) + (i1_.toInt64))))) := own_ns2 (own_rh HM).1
        have hn263 : Jvm.Free.Fl.NoNaN64 (FP.ddiv (FP.l2d (((0 : Int64) + (((0 : Int64) + (i0_.toInt64)) + (i1_.toInt64))) + (((0 : Int64) + (i0_.toInt64)) + (i1_.toInt64)))) (FP.l2d (((0 : Int64) + (((0 : Int64) + (i0_.toInt64)) + (i1_.toInt64))) + (((0 : Int64) + (i0_.toInt64)) + (i1_.toInt64))))) := own_ns2 (own_rh HM).2
        have f265 : Old Z n0 h245 := f249.keep K245 (allS (ge74) (allS (ge77) (allS (ge79) (allS (ge81) (allS (ge83) (allS (ge85) (allS (ge57) all0)))))))
        obtain ⟨cq264, kq264, q264a, q264b, q264c⟩ := isOf hZ e245 g245_0
        obtain ⟨_, _, ⟨T264, L264, k264, n264⟩, -, X264, ⟨Lc264, hQ264, l264, y264, z264⟩, st264⟩ := X245.virtualBack hx (y := mn5) (z := mn5) hown (mvT hZ (own_w hw 62 rfl)) (mvT hZ (own_w hw 63 rfl)) (notFace_of_selects (args := #[]) (mvT hZ (own_w hw 65 rfl))) (mvT hZ (own_w hw 65 rfl)) (mvT hZ (own_w hw 64 rfl)) (by decide) (backOf (W := 0) (rmRows l Z a0 hw [] b53 (((0 : Int32) + (1 : Int32)) + (1 : Int32)) (((0 : Int64) + (((0 : Int64) + (i0_.toInt64)) + (i1_.toInt64))) + (((0 : Int64) + (i0_.toInt64)) + (i1_.toInt64))) nb5_71 k5_71 (FP.dadd (FP.dadd (0 : UInt64) qr0) qr0) (FP.dadd (FP.dadd (0 : UInt64) qr1) qr1) nb18_71 k18_71 (FP.dadd (FP.dadd (0 : UInt64) qh0) qh0) (FP.dadd (FP.dadd (0 : UInt64) qh1) qh1) nb35_71 k35_71 (FP.dadd (FP.dadd (0 : UInt64) qp0) qp0) (FP.dadd (FP.dadd (0 : UInt64) qp1) qp1) nb54_71 k54_71 (FP.dadd (FP.dadd (0 : UInt64) qc0) qc0) (FP.dadd (FP.dadd (0 : UInt64) qc1) qc1) nb75_71 k75_71 (((0 : Int64) + ((0 : Int64) + (i0_.toInt64))) + ((0 : Int64) + (i0_.toInt64))) (((0 : Int64) + (((0 : Int64) + (i0_.toInt64)) + (i1_.toInt64))) + (((0 : Int64) + (i0_.toInt64)) + (i1_.toInt64))) nb98_71 k98_71 (((0 : Int64) + ((0 : Int64) + (hi_.toInt64))) + ((0 : Int64) + (hi_.toInt64))) (((0 : Int64) + (((0 : Int64) + (hi_.toInt64)) + (lo_.toInt64))) + (((0 : Int64) + (hi_.toInt64)) + (lo_.toInt64))) w_DEFAULTCAPACITY_EMPTY_ELEMENTDATA w_EMPTY_ELEMENTDATA k_w_EMPTY_ELEMENTDATA k_w_DEFAULTCAPACITY_EMPTY_ELEMENTDATA h245 n0 f265 hn251 hn252 hn254 hn256 hn258 hn260 hn262 hn253 hn255 hn257 hn259 hn261 hn263 g245_0 g245_1 g245_2 g245_3 g245_4 g245_5 g245_6 g245_7 g245_8 g245_9 g245_10 g245_11 g245_12 g245_13 g245_14 g245_15 P0 P1 P2 P3 P4 P5) hZ (own_w hw 66 rfl) (own_w hw 4 rfl) (by decide) (by decide)) q264a q264c (g := (mkF m 155 #[lvI p0_, lvI p1_, lvI p2_, lvI p3_, lvI p4_, lvI i0_, lvI i1_, lvI i2_, lvI i3_, lvJ ((i0_.toInt64) + (i1_.toInt64)), .second, lvJ ((i2_.toInt64) + (i3_.toInt64)), .second, lvI (1 : Int32), lvJ (2 : Int64), .second, lvR b27, lvR b37, lvR b53, .unset, .unset, .unset, .unset, .unset, .unset, .unset, .unset, .unset, .unset, .unset, .unset, .unset, .unset, .unset, .unset, .unset, .unset, .unset, .unset] [(.ref b53)])) rfl (by rw [hml]; rfl) (Steps.refl _) (argsL := []) (rest := []) (lenOf pd_16 rfl) rfl (by show 2 * 0 + _ ≤ _; exact Nat.le_of_eq rfl) (hb hby at_155) (fun _ _ => ⟨rfl, e245, (by decide : 11 + 4 ≤ _), (by decide : 29 + 27 ≤ _)⟩)
        dsimp only [Pt.U, Pt.locs, Pt.cells, Pt.slots] at X264 l264 y264 z264 st264 hQ264
        subst l264 y264 z264
        obtain ⟨h264, e264⟩ : ∃ z, T264.heap = z := ⟨_, rfl⟩
        rw [e264] at hQ264
        obtain ⟨k8_2_3_9_98_264, nb2_264, nnnnnb8_2_3_9_98_264, nb15_264, nb121_264, rfl, N264q, K264, sznb2_264, sznnnnnb8_2_3_9_98_264, sznb15_264, sznb121_264, nenb2_nnnnnb8_2_3_9_98_264, nenb2_nb15_264, nenb2_nb121_264, nennnnnb8_2_3_9_98_nb15_264, nennnnnb8_2_3_9_98_nb121_264, nenb15_nb121_264, g264_0, g264_1, g264_2, g264_3, g264_4, g264_5, g264_6, g264_7, g264_8, g264_9, g264_10, g264_11, g264_12, g264_13, g264_14, g264_15, g264_16, g264_17, g264_18, g264_19, g264_20, g264_21⟩ := hQ264
        have N266 := Fr.app N250 N264q
        have ge267 : n0 ≤ nb2_264 := Nat.le_trans (Nat.le_trans (Nat.le_of_eq f265.1.symm) f265.2.1) sznb2_264
        have f268 : Keep h0 h71 [] := f75.trans K71 (allS (Or.inr sz61) all0)
        have f269 : Keep h0 h103 [] := f268.trans K103 (allS (Or.inr sz76) (allS (Or.inr sz78) (allS (Or.inr sz80) (allS (Or.inr sz82) (allS (Or.inr sz84) (allS (Or.inr sz86) (allS (Or.inr sz61) all0)))))))
        have f270 : Keep h0 h245 [] := f269.trans K245 (allS (Or.inr sz76) (allS (Or.inr sz78) (allS (Or.inr sz80) (allS (Or.inr sz82) (allS (Or.inr sz84) (allS (Or.inr sz86) (allS (Or.inr sz61) all0)))))))
        have sz271 : h0.size ≤ nb2_264 := Nat.le_trans f270.1 sznb2_264
        have ge272 : n0 ≤ nnnnnb8_2_3_9_98_264 := Nat.le_trans (Nat.le_trans (Nat.le_of_eq f265.1.symm) f265.2.1) sznnnnnb8_2_3_9_98_264
        have sz273 : h0.size ≤ nnnnnb8_2_3_9_98_264 := Nat.le_trans f270.1 sznnnnnb8_2_3_9_98_264
        have ge274 : n0 ≤ nb15_264 := Nat.le_trans (Nat.le_trans (Nat.le_of_eq f265.1.symm) f265.2.1) sznb15_264
        have sz275 : h0.size ≤ nb15_264 := Nat.le_trans f270.1 sznb15_264
        have ge276 : n0 ≤ nb121_264 := Nat.le_trans (Nat.le_trans (Nat.le_of_eq f265.1.symm) f265.2.1) sznb121_264
        have sz277 : h0.size ≤ nb121_264 := Nat.le_trans f270.1 sznb121_264
        have f279 : Old Z n0 h264 := f265.keep K264 all0
        obtain ⟨cq278, kq278, q278a, q278b, q278c⟩ := isOf hZ e264 g264_0
        obtain ⟨_, _, ⟨T278, L278, k278, n278⟩, -, X278, ⟨Lc278, hQ278, l278, y278, z278⟩, st278⟩ := X264.interfaceBack hx (xi := (⟨"java/util/List", "size", "()I"⟩ : MethodName)) (y := (⟨"java/util/ArrayList", "size", "()I"⟩ : MethodName)) hown (mvT hZ (own_w hw 152 rfl)) (mvT hZ (own_w hw 153 rfl)) (mvT hZ (own_w hw 154 rfl)) (mvT hZ (own_w hw 155 rfl)) (mvT hZ (own_w hw 156 rfl)) (mvT hZ (own_w hw 157 rfl)) (mvT hZ (own_w hw 158 rfl)) (mvT hZ (own_w hw 124 rfl)) (by decide) (backOf (W := 0) (rmSize l Z a0 hw [] nb2_264 (2 : Int32) h264 n0 f279 g264_3) hZ (own_w hw 159 rfl) (own_w hw 69 rfl) (by decide) (by decide)) q278a q278b q278c (g := (mkF m 162 #[lvI p0_, lvI p1_, lvI p2_, lvI p3_, lvI p4_, lvI i0_, lvI i1_, lvI i2_, lvI i3_, lvJ ((i0_.toInt64) + (i1_.toInt64)), .second, lvJ ((i2_.toInt64) + (i3_.toInt64)), .second, lvI (1 : Int32), lvJ (2 : Int64), .second, lvR b27, lvR b37, lvR b53, lvR nb2_264, .unset, .unset, .unset, .unset, .unset, .unset, .unset, .unset, .unset, .unset, .unset, .unset, .unset, .unset, .unset, .unset, .unset, .unset, .unset] [(.ref nb2_264)])) rfl (by rw [hml]; rfl) (Steps.refl _) (argsL := []) (rest := []) (lenOf pd_17 rfl) rfl (by show 2 * 0 + _ ≤ _; exact Nat.le_of_eq rfl) (hb hby at_162) (fun _ _ => ⟨rfl, e264, (by decide : 15 + 0 ≤ _), (by decide : 56 + 0 ≤ _)⟩)
        dsimp only [Pt.U, Pt.locs, Pt.cells, Pt.slots] at X278 l278 y278 z278 st278 hQ278
        subst l278 y278 z278
        obtain ⟨h278, e278⟩ : ∃ z, T278.heap = z := ⟨_, rfl⟩
        rw [e278] at hQ278
        obtain ⟨rfl, N278q, hh278⟩ := hQ278
        have N280 := Fr.app N266 N278q
        have e278' : T278.heap = h264 := e278.trans hh278
        obtain ⟨cq281, kq281, q281a, q281b, q281c⟩ := isOf hZ e278' g264_0
        obtain ⟨_, _, ⟨T281, L281, k281, n281⟩, -, X281, ⟨Lc281, hQ281, l281, y281, z281⟩, st281⟩ := X278.interfaceBack hx (xi := (⟨"java/util/List", "get", "(I)Ljava/lang/Object;"⟩ : MethodName)) (y := (⟨"java/util/ArrayList", "get", "(I)Ljava/lang/Object;"⟩ : MethodName)) hown (mvT hZ (own_w hw 160 rfl)) (mvT hZ (own_w hw 161 rfl)) (mvT hZ (own_w hw 162 rfl)) (mvT hZ (own_w hw 163 rfl)) (mvT hZ (own_w hw 164 rfl)) (mvT hZ (own_w hw 165 rfl)) (mvT hZ (own_w hw 166 rfl)) (mvT hZ (own_w hw 124 rfl)) (by decide) (backOf (W := 0) (rmget0_ l Z a0 hw [] nb2_264 nnnnnb8_2_3_9_98_264 k8_2_3_9_98_264 nb15_264 nb121_264 h264 n0 f279 g264_0 g264_2 g264_3 g264_12) hZ (own_w hw 167 rfl) (own_w hw 69 rfl) (by decide) (by decide)) q281a q281b q281c (g := (mkF m 176 #[lvI p0_, lvI p1_, lvI p2_, lvI p3_, lvI p4_, lvI i0_, lvI i1_, lvI i2_, lvI i3_, lvJ ((i0_.toInt64) + (i1_.toInt64)), .second, lvJ ((i2_.toInt64) + (i3_.toInt64)), .second, lvI (1 : Int32), lvJ (2 : Int64), .second, lvR b27, lvR b37, lvR b53, lvR nb2_264, .unset, .unset, .unset, .unset, .unset, .unset, .unset, .unset, .unset, .unset, .unset, .unset, .unset, .unset, .unset, .unset, .unset, .unset, .unset] [(.int (0 : Int32)), (.ref nb2_264)])) rfl (by rw [hml]; rfl) (Steps.refl _) (argsL := [(.int (0 : Int32))]) (rest := []) (lenOf pd_13 rfl) rfl (by show 2 * 0 + _ ≤ _; exact Nat.le_of_eq rfl) (hb hby at_176) (fun _ _ => ⟨rfl, e278', (by decide : 15 + 0 ≤ _), (by decide : 56 + 0 ≤ _)⟩)
        dsimp only [Pt.U, Pt.locs, Pt.cells, Pt.slots] at X281 l281 y281 z281 st281 hQ281
        subst l281 y281 z281
        obtain ⟨h281, e281⟩ : ∃ z, T281.heap = z := ⟨_, rfl⟩
        rw [e281] at hQ281
        obtain ⟨rfl, N281q, hh281⟩ := hQ281
        have N282 := Fr.app N280 N281q
        have e281' : T281.heap = h264 := e281.trans hh281
        obtain ⟨T283, X283, e283, st283⟩ := castY X281 hx hZ hown (own_w hw 181 rfl) e281' (Ins.self g264_4) (g := (mkF m 181 #[lvI p0_, lvI p1_, lvI p2_, lvI p3_, lvI p4_, lvI i0_, lvI i1_, lvI i2_, lvI i3_, lvJ ((i0_.toInt64) + (i1_.toInt64)), .second, lvJ ((i2_.toInt64) + (i3_.toInt64)), .second, lvI (1 : Int32), lvJ (2 : Int64), .second, lvR b27, lvR b37, lvR b53, lvR nb2_264, .unset, .unset, .unset, .unset, .unset, .unset, .unset, .unset, .unset, .unset, .unset, .unset, .unset, .unset, .unset, .unset, .unset, .unset, .unset] [(.ref nb15_264)])) rfl rfl (hb hby at_181)
        obtain ⟨cq284, kq284, q284a, q284b, q284c⟩ := isOf hZ e283 g264_0
        obtain ⟨_, _, ⟨T284, L284, k284, n284⟩, -, X284, ⟨Lc284, hQ284, l284, y284, z284⟩, st284⟩ := X283.interfaceBack hx (xi := (⟨"java/util/List", "get", "(I)Ljava/lang/Object;"⟩ : MethodName)) (y := (⟨"java/util/ArrayList", "get", "(I)Ljava/lang/Object;"⟩ : MethodName)) hown (mvT hZ (own_w hw 160 rfl)) (mvT hZ (own_w hw 161 rfl)) (mvT hZ (own_w hw 162 rfl)) (mvT hZ (own_w hw 163 rfl)) (mvT hZ (own_w hw 164 rfl)) (mvT hZ (own_w hw 165 rfl)) (mvT hZ (own_w hw 166 rfl)) (mvT hZ (own_w hw 124 rfl)) (by decide) (backOf (W := 0) (rmget1_ l Z a0 hw [] nb2_264 nnnnnb8_2_3_9_98_264 k8_2_3_9_98_264 nb15_264 nb121_264 h264 n0 f279 g264_0 g264_2 g264_3 g264_12) hZ (own_w hw 167 rfl) (own_w hw 69 rfl) (by decide) (by decide)) q284a q284b q284c (g := (mkF m 189 #[lvI p0_, lvI p1_, lvI p2_, lvI p3_, lvI p4_, lvI i0_, lvI i1_, lvI i2_, lvI i3_, lvJ ((i0_.toInt64) + (i1_.toInt64)), .second, lvJ ((i2_.toInt64) + (i3_.toInt64)), .second, lvI (1 : Int32), lvJ (2 : Int64), .second, lvR b27, lvR b37, lvR b53, lvR nb2_264, lvR nb15_264, .unset, .unset, .unset, .unset, .unset, .unset, .unset, .unset, .unset, .unset, .unset, .unset, .unset, .unset, .unset, .unset, .unset, .unset] [(.int (1 : Int32)), (.ref nb2_264)])) rfl (by rw [hml]; rfl) (Steps.refl _) (argsL := [(.int (1 : Int32))]) (rest := []) (lenOf pd_13 rfl) rfl (by show 2 * 0 + _ ≤ _; exact Nat.le_of_eq rfl) (hb hby at_189) (fun _ _ => ⟨rfl, e283, (by decide : 15 + 0 ≤ _), (by decide : 56 + 0 ≤ _)⟩)
        dsimp only [Pt.U, Pt.locs, Pt.cells, Pt.slots] at X284 l284 y284 z284 st284 hQ284
        subst l284 y284 z284
        obtain ⟨h284, e284⟩ : ∃ z, T284.heap = z := ⟨_, rfl⟩
        rw [e284] at hQ284
        obtain ⟨rfl, N284q, hh284⟩ := hQ284
        have N285 := Fr.app N282 N284q
        have e284' : T284.heap = h264 := e284.trans hh284
        obtain ⟨T286, X286, e286, st286⟩ := castY X284 hx hZ hown (own_w hw 181 rfl) e284' (Ins.self g264_14) (g := (mkF m 194 #[lvI p0_, lvI p1_, lvI p2_, lvI p3_, lvI p4_, lvI i0_, lvI i1_, lvI i2_, lvI i3_, lvJ ((i0_.toInt64) + (i1_.toInt64)), .second, lvJ ((i2_.toInt64) + (i3_.toInt64)), .second, lvI (1 : Int32), lvJ (2 : Int64), .second, lvR b27, lvR b37, lvR b53, lvR nb2_264, lvR nb15_264, .unset, .unset, .unset, .unset, .unset, .unset, .unset, .unset, .unset, .unset, .unset, .unset, .unset, .unset, .unset, .unset, .unset, .unset] [(.ref nb121_264)])) rfl rfl (hb hby at_194)
        obtain ⟨_, _, ⟨T287, L287, k287, n287⟩, -, X287, ⟨Lc287, hQ287, l287, y287, z287⟩, st287⟩ := Jvm.LawKit.callS X286 hx (y := (⟨"java/lang/Math", "max", "(II)I"⟩ : MethodName)) hown (mvT hZ (own_w hw 183 rfl)) (mvT hZ (own_w hw 146 rfl)) (mvT hZ (own_w hw 147 rfl)) (mvT hZ (own_w hw 148 rfl)) (by decide) (backOf (W := 0) (rmMax l Z a0 hw [] i0_ i1_ lo_ hi_ h264 n0 f279 hS) hZ (own_w hw 148 rfl) (own_w hw 147 rfl) (by decide) (by decide)) (g := (mkF m 203 #[lvI p0_, lvI p1_, lvI p2_, lvI p3_, lvI p4_, lvI i0_, lvI i1_, lvI i2_, lvI i3_, lvJ ((i0_.toInt64) + (i1_.toInt64)), .second, lvJ ((i2_.toInt64) + (i3_.toInt64)), .second, lvI (1 : Int32), lvJ (2 : Int64), .second, lvR b27, lvR b37, lvR b53, lvR nb2_264, lvR nb15_264, lvR nb121_264, .unset, .unset, .unset, .unset, .unset, .unset, .unset, .unset, .unset, .unset, .unset, .unset, .unset, .unset, .unset, .unset, .unset] [(.int i1_), (.int i0_)])) rfl (by rw [hml]; rfl) (argsL := [(.int i0_), (.int i1_)]) (rest := []) (lenOf pd_7 rfl) rfl (by show 2 * 0 + _ ≤ _; exact Nat.le_of_eq rfl) (hb hby at_203) (fun _ _ => ⟨rfl, e286, (by decide : 15 + 0 ≤ _), (by decide : 56 + 0 ≤ _)⟩)
        dsimp only [Pt.U, Pt.locs, Pt.cells, Pt.slots] at X287 l287 y287 z287 st287 hQ287
        subst l287 y287 z287
        obtain ⟨h287, e287⟩ : ∃ z, T287.heap = z := ⟨_, rfl⟩
        rw [e287] at hQ287
        obtain ⟨rfl, N287q, hh287⟩ := hQ287
        have N288 := Fr.app N285 N287q
        have e287' : T287.heap = h264 := e287.trans hh287
        have hn289 : Jvm.Free.Fl.NoNaN64 (FP.ddiv (FP.i2d i0_) (FP.l2d (hi_.toInt64))) := own_l1 HM hS
        have pre290 : ∀ t, own_S p e below m T287 216 #[lvI p0_, lvI p1_, lvI p2_, lvI p3_, lvI p4_, lvI i0_, lvI i1_, lvI i2_, lvI i3_, lvJ ((i0_.toInt64) + (i1_.toInt64)), .second, lvJ ((i2_.toInt64) + (i3_.toInt64)), .second, lvI (1 : Int32), lvJ (2 : Int64), .second, lvR b27, lvR b37, lvR b53, lvR nb2_264, lvR nb15_264, lvR nb121_264, lvJ (hi_.toInt64), .second, .unset, .unset, .unset, .unset, .unset, .unset, .unset, .unset, .unset, .unset, .unset, .unset, .unset, .unset, .unset] [(.double (FP.ddiv (FP.i2d i0_) (FP.l2d (hi_.toInt64))))] t → G t := by
          intro t kt
          refine pre236 t ?_
          show own_S p e below m T103 139 #[lvI p0_, lvI p1_, lvI p2_, lvI p3_, lvI p4_, lvI i0_, lvI i1_, lvI i2_, lvI i3_, lvJ ((i0_.toInt64) + (i1_.toInt64)), .second, lvJ ((i2_.toInt64) + (i3_.toInt64)), .second, lvI (1 : Int32), lvJ (2 : Int64), .second, lvR b27, lvR b37, lvR b53, .unset, .unset, .unset, .unset, .unset, .unset, .unset, .unset, .unset, .unset, .unset, .unset, .unset, .unset, .unset, .unset, .unset, .unset, .unset, .unset] [] _
          refine XS.iload X103.here hx rfl (hb hby at_139) rfl ?_
          show own_S p e below m T103 141 #[lvI p0_, lvI p1_, lvI p2_, lvI p3_, lvI p4_, lvI i0_, lvI i1_, lvI i2_, lvI i3_, lvJ ((i0_.toInt64) + (i1_.toInt64)), .second, lvJ ((i2_.toInt64) + (i3_.toInt64)), .second, lvI (1 : Int32), lvJ (2 : Int64), .second, lvR b27, lvR b37, lvR b53, .unset, .unset, .unset, .unset, .unset, .unset, .unset, .unset, .unset, .unset, .unset, .unset, .unset, .unset, .unset, .unset, .unset, .unset, .unset, .unset] [(.int (1 : Int32))] _
          refine XS.ifNo X103.here hx rfl (hb hby at_141) rfl ((if0 _ _).trans (feq (by decide : ¬ ((1 : Int32) = (0 : Int32)))).1) ?_
          refine XS.aload X103.here hx rfl (hb hby at_144) rfl rfl ?_
          refine XS.aload X103.here hx rfl (hb hby at_146) rfl rfl ?_
          refine XS.aload X103.here hx rfl (hb hby at_148) rfl rfl ?_
          show own_S p e below m T103 150 #[lvI p0_, lvI p1_, lvI p2_, lvI p3_, lvI p4_, lvI i0_, lvI i1_, lvI i2_, lvI i3_, lvJ ((i0_.toInt64) + (i1_.toInt64)), .second, lvJ ((i2_.toInt64) + (i3_.toInt64)), .second, lvI (1 : Int32), lvJ (2 : Int64), .second, lvR b27, lvR b37, lvR b53, .unset, .unset, .unset, .unset, .unset, .unset, .unset, .unset, .unset, .unset, .unset, .unset, .unset, .unset, .unset, .unset, .unset, .unset, .unset, .unset] [(.ref b37), (.ref b27), (.ref b53)] _
          refine st245.trans ?_
          refine XS.aload X245.here hx rfl (hb hby at_153) rfl rfl ?_
          show own_S p e below m T245 155 #[lvI p0_, lvI p1_, lvI p2_, lvI p3_, lvI p4_, lvI i0_, lvI i1_, lvI i2_, lvI i3_, lvJ ((i0_.toInt64) + (i1_.toInt64)), .second, lvJ ((i2_.toInt64) + (i3_.toInt64)), .second, lvI (1 : Int32), lvJ (2 : Int64), .second, lvR b27, lvR b37, lvR b53, .unset, .unset, .unset, .unset, .unset, .unset, .unset, .unset, .unset, .unset, .unset, .unset, .unset, .unset, .unset, .unset, .unset, .unset, .unset, .unset] [(.ref b53)] _
          refine st264.trans ?_
          refine XS.astore X264.here hx rfl (hb hby at_158) rfl rfl (l' := #[lvI p0_, lvI p1_, lvI p2_, lvI p3_, lvI p4_, lvI i0_, lvI i1_, lvI i2_, lvI i3_, lvJ ((i0_.toInt64) + (i1_.toInt64)), .second, lvJ ((i2_.toInt64) + (i3_.toInt64)), .second, lvI (1 : Int32), lvJ (2 : Int64), .second, lvR b27, lvR b37, lvR b53, lvR nb2_264, .unset, .unset, .unset, .unset, .unset, .unset, .unset, .unset, .unset, .unset, .unset, .unset, .unset, .unset, .unset, .unset, .unset, .unset, .unset]) rfl ?_
          refine XS.aload X264.here hx rfl (hb hby at_160) rfl rfl ?_
          show own_S p e below m T264 162 #[lvI p0_, lvI p1_, lvI p2_, lvI p3_, lvI p4_, lvI i0_, lvI i1_, lvI i2_, lvI i3_, lvJ ((i0_.toInt64) + (i1_.toInt64)), .second, lvJ ((i2_.toInt64) + (i3_.toInt64)), .second, lvI (1 : Int32), lvJ (2 : Int64), .second, lvR b27, lvR b37, lvR b53, lvR nb2_264, .unset, .unset, .unset, .unset, .unset, .unset, .unset, .unset, .unset, .unset, .unset, .unset, .unset, .unset, .unset, .unset, .unset, .unset, .unset] [(.ref nb2_264)] _
          refine st278.trans ?_
          refine XS.iconst X278.here hx rfl (hb hby at_167) ?_
          show own_S p e below m T278 168 #[lvI p0_, lvI p1_, lvI p2_, lvI p3_, lvI p4_, lvI i0_, lvI i1_, lvI i2_, lvI i3_, lvJ ((i0_.toInt64) + (i1_.toInt64)), .second, lvJ ((i2_.toInt64) + (i3_.toInt64)), .second, lvI (1 : Int32), lvJ (2 : Int64), .second, lvR b27, lvR b37, lvR b53, lvR nb2_264, .unset, .unset, .unset, .unset, .unset, .unset, .unset, .unset, .unset, .unset, .unset, .unset, .unset, .unset, .unset, .unset, .unset, .unset, .unset] [(.int (2 : Int32)), (.int (2 : Int32))] _
          refine XS.icmpYes X278.here hx rfl (pc0 := 168) (pc' := 173) rfl (hb hby at_168) rfl (teq (by decide : (2 : Int32) = (2 : Int32))).1 (by decide) (by decide) ?_
          refine XS.aload X278.here hx rfl (hb hby at_173) rfl rfl ?_
          refine XS.iconst X278.here hx rfl (hb hby at_175) ?_
          show own_S p e below m T278 176 #[lvI p0_, lvI p1_, lvI p2_, lvI p3_, lvI p4_, lvI i0_, lvI i1_, lvI i2_, lvI i3_, lvJ ((i0_.toInt64) + (i1_.toInt64)), .second, lvJ ((i2_.toInt64) + (i3_.toInt64)), .second, lvI (1 : Int32), lvJ (2 : Int64), .second, lvR b27, lvR b37, lvR b53, lvR nb2_264, .unset, .unset, .unset, .unset, .unset, .unset, .unset, .unset, .unset, .unset, .unset, .unset, .unset, .unset, .unset, .unset, .unset, .unset, .unset] [(.int (0 : Int32)), (.ref nb2_264)] _
          refine st281.trans ?_
          show own_S p e below m T281 181 #[lvI p0_, lvI p1_, lvI p2_, lvI p3_, lvI p4_, lvI i0_, lvI i1_, lvI i2_, lvI i3_, lvJ ((i0_.toInt64) + (i1_.toInt64)), .second, lvJ ((i2_.toInt64) + (i3_.toInt64)), .second, lvI (1 : Int32), lvJ (2 : Int64), .second, lvR b27, lvR b37, lvR b53, lvR nb2_264, .unset, .unset, .unset, .unset, .unset, .unset, .unset, .unset, .unset, .unset, .unset, .unset, .unset, .unset, .unset, .unset, .unset, .unset, .unset] [(.ref nb15_264)] _
          refine st283 _ ?_
          refine XS.astore X283.here hx rfl (hb hby at_184) rfl rfl (l' := #[lvI p0_, lvI p1_, lvI p2_, lvI p3_, lvI p4_, lvI i0_, lvI i1_, lvI i2_, lvI i3_, lvJ ((i0_.toInt64) + (i1_.toInt64)), .second, lvJ ((i2_.toInt64) + (i3_.toInt64)), .second, lvI (1 : Int32), lvJ (2 : Int64), .second, lvR b27, lvR b37, lvR b53, lvR nb2_264, lvR nb15_264, .unset, .unset, .unset, .unset, .unset, .unset, .unset, .unset, .unset, .unset, .unset, .unset, .unset, .unset, .unset, .unset, .unset, .unset]) rfl ?_
          refine XS.aload X283.here hx rfl (hb hby at_186) rfl rfl ?_
          refine XS.iconst X283.here hx rfl (hb hby at_188) ?_
          show own_S p e below m T283 189 #[lvI p0_, lvI p1_, lvI p2_, lvI p3_, lvI p4_, lvI i0_, lvI i1_, lvI i2_, lvI i3_, lvJ ((i0_.toInt64) + (i1_.toInt64)), .second, lvJ ((i2_.toInt64) + (i3_.toInt64)), .second, lvI (1 : Int32), lvJ (2 : Int64), .second, lvR b27, lvR b37, lvR b53, lvR nb2_264, lvR nb15_264, .unset, .unset, .unset, .unset, .unset, .unset, .unset, .unset, .unset, .unset, .unset, .unset, .unset, .unset, .unset, .unset, .unset, .unset] [(.int (1 : Int32)), (.ref nb2_264)] _
          refine st284.trans ?_
          show own_S p e below m T284 194 #[lvI p0_, lvI p1_, lvI p2_, lvI p3_, lvI p4_, lvI i0_, lvI i1_, lvI i2_, lvI i3_, lvJ ((i0_.toInt64) + (i1_.toInt64)), .second, lvJ ((i2_.toInt64) + (i3_.toInt64)), .second, lvI (1 : Int32), lvJ (2 : Int64), .second, lvR b27, lvR b37, lvR b53, lvR nb2_264, lvR nb15_264, .unset, .unset, .unset, .unset, .unset, .unset, .unset, .unset, .unset, .unset, .unset, .unset, .unset, .unset, .unset, .unset, .unset, .unset] [(.ref nb121_264)] _
          refine st286 _ ?_
          refine XS.astore X286.here hx rfl (hb hby at_197) rfl rfl (l' := #[lvI p0_, lvI p1_, lvI p2_, lvI p3_, lvI p4_, lvI i0_, lvI i1_, lvI i2_, lvI i3_, lvJ ((i0_.toInt64) + (i1_.toInt64)), .second, lvJ ((i2_.toInt64) + (i3_.toInt64)), .second, lvI (1 : Int32), lvJ (2 : Int64), .second, lvR b27, lvR b37, lvR b53, lvR nb2_264, lvR nb15_264, lvR nb121_264, .unset, .unset, .unset, .unset, .unset, .unset, .unset, .unset, .unset, .unset, .unset, .unset, .unset, .unset, .unset, .unset, .unset]) rfl ?_
          refine XS.iload X286.here hx rfl (hb hby at_199) rfl ?_
          refine XS.iload X286.here hx rfl (hb hby at_201) rfl ?_
          show own_S p e below m T286 203 #[lvI p0_, lvI p1_, lvI p2_, lvI p3_, lvI p4_, lvI i0_, lvI i1_, lvI i2_, lvI i3_, lvJ ((i0_.toInt64) + (i1_.toInt64)), .second, lvJ ((i2_.toInt64) + (i3_.toInt64)), .second, lvI (1 : Int32), lvJ (2 : Int64), .second, lvR b27, lvR b37, lvR b53, lvR nb2_264, lvR nb15_264, lvR nb121_264, .unset, .unset, .unset, .unset, .unset, .unset, .unset, .unset, .unset, .unset, .unset, .unset, .unset, .unset, .unset, .unset, .unset] [(.int i1_), (.int i0_)] _
          refine st287 _ ?_
          refine XS.i2l X287.here hx rfl (hb hby at_206) rfl ?_
          refine XS.lstore X287.here hx rfl (hb hby at_207) rfl (l' := #[lvI p0_, lvI p1_, lvI p2_, lvI p3_, lvI p4_, lvI i0_, lvI i1_, lvI i2_, lvI i3_, lvJ ((i0_.toInt64) + (i1_.toInt64)), .second, lvJ ((i2_.toInt64) + (i3_.toInt64)), .second, lvI (1 : Int32), lvJ (2 : Int64), .second, lvR b27, lvR b37, lvR b53, lvR nb2_264, lvR nb15_264, lvR nb121_264, lvJ (hi_.toInt64), .second, .unset, .unset, .unset, .unset, .unset, .unset, .unset, .unset, .unset, .unset, .unset, .unset, .unset, .unset, .unset]) rfl ?_
          refine XS.iload X287.here hx rfl (hb hby at_209) rfl ?_
          refine XS.i2dS X287.here hx rfl (hb hby at_211) rfl rfl ?_
          refine XS.lload X287.here hx rfl (hb hby at_212) rfl ?_
          refine XS.l2dS X287.here hx rfl (hb hby at_214) rfl rfl ?_
          refine XS.ddivS X287.here hx rfl (hb hby at_215) rfl hn289 rfl ?_
          exact kt
        obtain ⟨l1_, el1⟩ : ∃ z, z = (FP.ddiv (FP.i2d i0_) (FP.l2d (hi_.toInt64))) := ⟨_, rfl⟩
        have pre291 : ∀ t, own_S p e below m T287 216 #[lvI p0_, lvI p1_, lvI p2_, lvI p3_, lvI p4_, lvI i0_, lvI i1_, lvI i2_, lvI i3_, lvJ ((i0_.toInt64) + (i1_.toInt64)), .second, lvJ ((i2_.toInt64) + (i3_.toInt64)), .second, lvI (1 : Int32), lvJ (2 : Int64), .second, lvR b27, lvR b37, lvR b53, lvR nb2_264, lvR nb15_264, lvR nb121_264, lvJ (hi_.toInt64), .second, .unset, .unset, .unset, .unset, .unset, .unset, .unset, .unset, .unset, .unset, .unset, .unset, .unset, .unset, .unset] [(.double l1_)] t → G t := fun t kt => pre290 t (by rw [← el1]; exact kt)
        have hn292 : Jvm.Free.Fl.NoNaN64 (FP.ddiv (FP.i2d i0_) (FP.l2d ((i0_.toInt64) + (i1_.toInt64)))) := own_l2 HM
        have pre293 : ∀ t, own_S p e below m T287 225 #[lvI p0_, lvI p1_, lvI p2_, lvI p3_, lvI p4_, lvI i0_, lvI i1_, lvI i2_, lvI i3_, lvJ ((i0_.toInt64) + (i1_.toInt64)), .second, lvJ ((i2_.toInt64) + (i3_.toInt64)), .second, lvI (1 : Int32), lvJ (2 : Int64), .second, lvR b27, lvR b37, lvR b53, lvR nb2_264, lvR nb15_264, lvR nb121_264, lvJ (hi_.toInt64), .second, lvD l1_, .second, .unset, .unset, .unset, .unset, .unset, .unset, .unset, .unset, .unset, .unset, .unset, .unset, .unset] [(.double (FP.ddiv (FP.i2d i0_) (FP.l2d ((i0_.toInt64) + (i1_.toInt64)))))] t → G t := by
          intro t kt
          refine pre291 t ?_
          show own_S p e below m T287 216 #[lvI p0_, lvI p1_, lvI p2_, lvI p3_, lvI p4_, lvI i0_, lvI i1_, lvI i2_, lvI i3_, lvJ ((i0_.toInt64) + (i1_.toInt64)), .second, lvJ ((i2_.toInt64) + (i3_.toInt64)), .second, lvI (1 : Int32), lvJ (2 : Int64), .second, lvR b27, lvR b37, lvR b53, lvR nb2_264, lvR nb15_264, lvR nb121_264, lvJ (hi_.toInt64), .second, .unset, .unset, .unset, .unset, .unset, .unset, .unset, .unset, .unset, .unset, .unset, .unset, .unset, .unset, .unset] [(.double l1_)] _
          refine XS.dstore X287.here hx rfl (hb hby at_216) rfl (l' := #[lvI p0_, lvI p1_, lvI p2_, lvI p3_, lvI p4_, lvI i0_, lvI i1_, lvI i2_, lvI i3_, lvJ ((i0_.toInt64) + (i1_.toInt64)), .second, lvJ ((i2_.toInt64) + (i3_.toInt64)), .second, lvI (1 : Int32), lvJ (2 : Int64), .second, lvR b27, lvR b37, lvR b53, lvR nb2_264, lvR nb15_264, lvR nb121_264, lvJ (hi_.toInt64), .second, lvD l1_, .second, .unset, .unset, .unset, .unset, .unset, .unset, .unset, .unset, .unset, .unset, .unset, .unset, .unset]) rfl ?_
          refine XS.iload X287.here hx rfl (hb hby at_218) rfl ?_
          refine XS.i2dS X287.here hx rfl (hb hby at_220) rfl rfl ?_
          refine XS.lload X287.here hx rfl (hb hby at_221) rfl ?_
          refine XS.l2dS X287.here hx rfl (hb hby at_223) rfl rfl ?_
          refine XS.ddivS X287.here hx rfl (hb hby at_224) rfl hn292 rfl ?_
          exact kt
        obtain ⟨l2_, el2⟩ : ∃ z, z = (FP.ddiv (FP.i2d i0_) (FP.l2d ((i0_.toInt64) + (i1_.toInt64)))) := ⟨_, rfl⟩
        have pre294 : ∀ t, own_S p e below m T287 225 #[lvI p0_, lvI p1_, lvI p2_, lvI p3_, lvI p4_, lvI i0_, lvI i1_, lvI i2_, lvI i3_, lvJ ((i0_.toInt64) + (i1_.toInt64)), .second, lvJ ((i2_.toInt64) + (i3_.toInt64)), .second, lvI (1 : Int32), lvJ (2 : Int64), .second, lvR b27, lvR b37, lvR b53, lvR nb2_264, lvR nb15_264, lvR nb121_264, lvJ (hi_.toInt64), .second, lvD l1_, .second, .unset, .unset, .unset, .unset, .unset, .unset, .unset, .unset, .unset, .unset, .unset, .unset, .unset] [(.double l2_)] t → G t := fun t kt => pre293 t (by rw [← el2]; exact kt)
        have pre295 : ∀ t, own_S p e below m T287 227 #[lvI p0_, lvI p1_, lvI p2_, lvI p3_, lvI p4_, lvI i0_, lvI i1_, lvI i2_, lvI i3_, lvJ ((i0_.toInt64) + (i1_.toInt64)), .second, lvJ ((i2_.toInt64) + (i3_.toInt64)), .second, lvI (1 : Int32), lvJ (2 : Int64), .second, lvR b27, lvR b37, lvR b53, lvR nb2_264, lvR nb15_264, lvR nb121_264, lvJ (hi_.toInt64), .second, lvD l1_, .second, lvD l2_, .second, .unset, .unset, .unset, .unset, .unset, .unset, .unset, .unset, .unset, .unset, .unset] [] t → G t := by
          intro t kt
          refine pre294 t ?_
          show own_S p e below m T287 225 #[lvI p0_, lvI p1_, lvI p2_, lvI p3_, lvI p4_, lvI i0_, lvI i1_, lvI i2_, lvI i3_, lvJ ((i0_.toInt64) + (i1_.toInt64)), .second, lvJ ((i2_.toInt64) + (i3_.toInt64)), .second, lvI (1 : Int32), lvJ (2 : Int64), .second, lvR b27, lvR b37, lvR b53, lvR nb2_264, lvR nb15_264, lvR nb121_264, lvJ (hi_.toInt64), .second, lvD l1_, .second, .unset, .unset, .unset, .unset, .unset, .unset, .unset, .unset, .unset, .unset, .unset, .unset, .unset] [(.double l2_)] _
          refine XS.dstore X287.here hx rfl (hb hby at_225) rfl (l' := #[lvI p0_, lvI p1_, lvI p2_, lvI p3_, lvI p4_, lvI i0_, lvI i1_, lvI i2_, lvI i3_, lvJ ((i0_.toInt64) + (i1_.toInt64)), .second, lvJ ((i2_.toInt64) + (i3_.toInt64)), .second, lvI (1 : Int32), lvJ (2 : Int64), .second, lvR b27, lvR b37, lvR b53, lvR nb2_264, lvR nb15_264, lvR nb121_264, lvJ (hi_.toInt64), .second, lvD l1_, .second, lvD l2_, .second, .unset, .unset, .unset, .unset, .unset, .unset, .unset, .unset, .unset, .unset, .unset]) rfl ?_
          exact kt
        obtain ⟨pd1, hd1⟩ := own_pd_ex i0_
        have pre296 : ∀ t, own_S p e below m T287 237 #[lvI p0_, lvI p1_, lvI p2_, lvI p3_, lvI p4_, lvI i0_, lvI i1_, lvI i2_, lvI i3_, lvJ ((i0_.toInt64) + (i1_.toInt64)), .second, lvJ ((i2_.toInt64) + (i3_.toInt64)), .second, lvI (1 : Int32), lvJ (2 : Int64), .second, lvR b27, lvR b37, lvR b53, lvR nb2_264, lvR nb15_264, lvR nb121_264, lvJ (hi_.toInt64), .second, lvD l1_, .second, lvD l2_, .second, .unset, .unset, .unset, .unset, .unset, .unset, .unset, .unset, .unset, .unset, .unset] [(.double pd1)] t → G t := by
          intro t kt
          rcases hd1 with ⟨hj297_0, ej297_0⟩ | ⟨hj298_0, ej298_0⟩
          · have pre299 : ∀ t, own_S p e below m T287 237 #[lvI p0_, lvI p1_, lvI p2_, lvI p3_, lvI p4_, lvI i0_, lvI i1_, lvI i2_, lvI i3_, lvJ ((i0_.toInt64) + (i1_.toInt64)), .second, lvJ ((i2_.toInt64) + (i3_.toInt64)), .second, lvI (1 : Int32), lvJ (2 : Int64), .second, lvR b27, lvR b37, lvR b53, lvR nb2_264, lvR nb15_264, lvR nb121_264, lvJ (hi_.toInt64), .second, lvD l1_, .second, lvD l2_, .second, .unset, .unset, .unset, .unset, .unset, .unset, .unset, .unset, .unset, .unset, .unset] [(.double (4607182418800017408 : UInt64))] t → G t := by
              intro t kt
              refine pre295 t ?_
              show own_S p e below m T287 227 #[lvI p0_, lvI p1_, lvI p2_, lvI p3_, lvI p4_, lvI i0_, lvI i1_, lvI i2_, lvI i3_, lvJ ((i0_.toInt64) + (i1_.toInt64)), .second, lvJ ((i2_.toInt64) + (i3_.toInt64)), .second, lvI (1 : Int32), lvJ (2 : Int64), .second, lvR b27, lvR b37, lvR b53, lvR nb2_264, lvR nb15_264, lvR nb121_264, lvJ (hi_.toInt64), .second, lvD l1_, .second, lvD l2_, .second, .unset, .unset, .unset, .unset, .unset, .unset, .unset, .unset, .unset, .unset, .unset] [] _
              refine XS.iload X287.here hx rfl (hb hby at_227) rfl ?_
              show own_S p e below m T287 229 #[lvI p0_, lvI p1_, lvI p2_, lvI p3_, lvI p4_, lvI i0_, lvI i1_, lvI i2_, lvI i3_, lvJ ((i0_.toInt64) + (i1_.toInt64)), .second, lvJ ((i2_.toInt64) + (i3_.toInt64)), .second, lvI (1 : Int32), lvJ (2 : Int64), .second, lvR b27, lvR b37, lvR b53, lvR nb2_264, lvR nb15_264, lvR nb121_264, lvJ (hi_.toInt64), .second, lvD l1_, .second, lvD l2_, .second, .unset, .unset, .unset, .unset, .unset, .unset, .unset, .unset, .unset, .unset, .unset] [(.int i0_)] _
              refine XS.ifNo X287.here hx rfl (hb hby at_229) rfl ((if0 _ _).trans (tlt hj297_0).2.2.2) ?_
              refine XS.dconst1 X287.here hx rfl (hb hby at_232) rfl ?_
              refine XS.goto X287.here hx rfl (pc0 := 233) (pc' := 237) rfl (hb hby at_233) (by decide) (by decide) ?_
              exact kt
            exact pre299 t (by rw [ej297_0] at kt; exact kt)
          · have pre300 : ∀ t, own_S p e below m T287 237 #[lvI p0_, lvI p1_, lvI p2_, lvI p3_, lvI p4_, lvI i0_, lvI i1_, lvI i2_, lvI i3_, lvJ ((i0_.toInt64) + (i1_.toInt64)), .second, lvJ ((i2_.toInt64) + (i3_.toInt64)), .second, lvI (1 : Int32), lvJ (2 : Int64), .second, lvR b27, lvR b37, lvR b53, lvR nb2_264, lvR nb15_264, lvR nb121_264, lvJ (hi_.toInt64), .second, lvD l1_, .second, lvD l2_, .second, .unset, .unset, .unset, .unset, .unset, .unset, .unset, .unset, .unset, .unset, .unset] [(.double (0 : UInt64))] t → G t := by
              intro t kt
              refine pre295 t ?_
              show own_S p e below m T287 227 #[lvI p0_, lvI p1_, lvI p2_, lvI p3_, lvI p4_, lvI i0_, lvI i1_, lvI i2_, lvI i3_, lvJ ((i0_.toInt64) + (i1_.toInt64)), .second, lvJ ((i2_.toInt64) + (i3_.toInt64)), .second, lvI (1 : Int32), lvJ (2 : Int64), .second, lvR b27, lvR b37, lvR b53, lvR nb2_264, lvR nb15_264, lvR nb121_264, lvJ (hi_.toInt64), .second, lvD l1_, .second, lvD l2_, .second, .unset, .unset, .unset, .unset, .unset, .unset, .unset, .unset, .unset, .unset, .unset] [] _
              refine XS.iload X287.here hx rfl (hb hby at_227) rfl ?_
              show own_S p e below m T287 229 #[lvI p0_, lvI p1_, lvI p2_, lvI p3_, lvI p4_, lvI i0_, lvI i1_, lvI i2_, lvI i3_, lvJ ((i0_.toInt64) + (i1_.toInt64)), .second, lvJ ((i2_.toInt64) + (i3_.toInt64)), .second, lvI (1 : Int32), lvJ (2 : Int64), .second, lvR b27, lvR b37, lvR b53, lvR nb2_264, lvR nb15_264, lvR nb121_264, lvJ (hi_.toInt64), .second, lvD l1_, .second, lvD l2_, .second, .unset, .unset, .unset, .unset, .unset, .unset, .unset, .unset, .unset, .unset, .unset] [(.int i0_)] _
              refine XS.ifYes X287.here hx rfl (pc0 := 229) (pc' := 236) rfl (hb hby at_229) rfl ((if0 _ _).trans (flt hj298_0).2.2.2) (by decide) (by decide) ?_
              refine XS.dconst0 X287.here hx rfl (hb hby at_236) rfl ?_
              exact kt
            exact pre300 t (by rw [ej298_0] at kt; exact kt)
        have pre301 : ∀ t, own_S p e below m T287 239 #[lvI p0_, lvI p1_, lvI p2_, lvI p3_, lvI p4_, lvI i0_, lvI i1_, lvI i2_, lvI i3_, lvJ ((i0_.toInt64) + (i1_.toInt64)), .second, lvJ ((i2_.toInt64) + (i3_.toInt64)), .second, lvI (1 : Int32), lvJ (2 : Int64), .second, lvR b27, lvR b37, lvR b53, lvR nb2_264, lvR nb15_264, lvR nb121_264, lvJ (hi_.toInt64), .second, lvD l1_, .second, lvD l2_, .second, lvD pd1, .second, .unset, .unset, .unset, .unset, .unset, .unset, .unset, .unset, .unset] [] t → G t := by
          intro t kt
          refine pre296 t ?_
          show own_S p e below m T287 237 #[lvI p0_, lvI p1_, lvI p2_, lvI p3_, lvI p4_, lvI i0_, lvI i1_, lvI i2_, lvI i3_, lvJ ((i0_.toInt64) + (i1_.toInt64)), .second, lvJ ((i2_.toInt64) + (i3_.toInt64)), .second, lvI (1 : Int32), lvJ (2 : Int64), .second, lvR b27, lvR b37, lvR b53, lvR nb2_264, lvR nb15_264, lvR nb121_264, lvJ (hi_.toInt64), .second, lvD l1_, .second, lvD l2_, .second, .unset, .unset, .unset, .unset, .unset, .unset, .unset, .unset, .unset, .unset, .unset] [(.double pd1)] _
          refine XS.dstore X287.here hx rfl (hb hby at_237) rfl (l' := #[lvI p0_, lvI p1_, lvI p2_, lvI p3_, lvI p4_, lvI i0_, lvI i1_, lvI i2_, lvI i3_, lvJ ((i0_.toInt64) + (i1_.toInt64)), .second, lvJ ((i2_.toInt64) + (i3_.toInt64)), .second, lvI (1 : Int32), lvJ (2 : Int64), .second, lvR b27, lvR b37, lvR b53, lvR nb2_264, lvR nb15_264, lvR nb121_264, lvJ (hi_.toInt64), .second, lvD l1_, .second, lvD l2_, .second, lvD pd1, .second, .unset, .unset, .unset, .unset, .unset, .unset, .unset, .unset, .unset]) rfl ?_
          exact kt
        obtain ⟨hd, pd2, hd2⟩ := own_pe_ex i0_ i1_
        have pre302 : ∀ t, own_S p e below m T287 285 #[lvI p0_, lvI p1_, lvI p2_, lvI p3_, lvI p4_, lvI i0_, lvI i1_, lvI i2_, lvI i3_, lvJ ((i0_.toInt64) + (i1_.toInt64)), .second, lvJ ((i2_.toInt64) + (i3_.toInt64)), .second, lvI (1 : Int32), lvJ (2 : Int64), .second, lvR b27, lvR b37, lvR b53, lvR nb2_264, lvR nb15_264, lvR nb121_264, lvJ (hi_.toInt64), .second, lvD l1_, .second, lvD l2_, .second, lvD pd1, .second, lvI hd, .unset, .unset, .unset, .unset, .unset, .unset, .unset, .unset] [(.double pd2)] t → G t := by
          intro t kt
          rcases hd2 with ⟨hj303_0, hj303_1, ej303_0, ej303_1⟩ | ⟨hj304_0, hj304_1, ej304_0, ej304_1⟩ | ⟨hj305_0, hj305_1, ej305_0, ej305_1⟩ | ⟨hj306_0, hj306_1, ej306_0, ej306_1⟩
          · have pre307 : ∀ t, own_S p e below m T287 285 #[lvI p0_, lvI p1_, lvI p2_, lvI p3_, lvI p4_, lvI i0_, lvI i1_, lvI i2_, lvI i3_, lvJ ((i0_.toInt64) + (i1_.toInt64)), .second, lvJ ((i2_.toInt64) + (i3_.toInt64)), .second, lvI (1 : Int32), lvJ (2 : Int64), .second, lvR b27, lvR b37, lvR b53, lvR nb2_264, lvR nb15_264, lvR nb121_264, lvJ (hi_.toInt64), .second, lvD l1_, .second, lvD l2_, .second, lvD pd1, .second, lvI (2 : Int32), .unset, .unset, .unset, .unset, .unset, .unset, .unset, .unset] [(.double (4607182418800017408 : UInt64))] t → G t := by
              intro t kt
              refine pre301 t ?_
              show own_S p e below m T287 239 #[lvI p0_, lvI p1_, lvI p2_, lvI p3_, lvI p4_, lvI i0_, lvI i1_, lvI i2_, lvI i3_, lvJ ((i0_.toInt64) + (i1_.toInt64)), .second, lvJ ((i2_.toInt64) + (i3_.toInt64)), .second, lvI (1 : Int32), lvJ (2 : Int64), .second, lvR b27, lvR b37, lvR b53, lvR nb2_264, lvR nb15_264, lvR nb121_264, lvJ (hi_.toInt64), .second, lvD l1_, .second, lvD l2_, .second, lvD pd1, .second, .unset, .unset, .unset, .unset, .unset, .unset, .unset, .unset, .unset] [] _
              refine XS.iload X287.here hx rfl (hb hby at_239) rfl ?_
              show own_S p e below m T287 241 #[lvI p0_, lvI p1_, lvI p2_, lvI p3_, lvI p4_, lvI i0_, lvI i1_, lvI i2_, lvI i3_, lvJ ((i0_.toInt64) + (i1_.toInt64)), .second, lvJ ((i2_.toInt64) + (i3_.toInt64)), .second, lvI (1 : Int32), lvJ (2 : Int64), .second, lvR b27, lvR b37, lvR b53, lvR nb2_264, lvR nb15_264, lvR nb121_264, lvJ (hi_.toInt64), .second, lvD l1_, .second, lvD l2_, .second, lvD pd1, .second, .unset, .unset, .unset, .unset, .unset, .unset, .unset, .unset, .unset] [(.int i0_)] _
              refine XS.ifNo X287.here hx rfl (hb hby at_241) rfl ((if0 _ _).trans (tlt hj303_0).2.2.2) ?_
              refine XS.iconst X287.here hx rfl (hb hby at_244) ?_
              refine XS.goto X287.here hx rfl (pc0 := 245) (pc' := 249) rfl (hb hby at_245) (by decide) (by decide) ?_
              refine XS.iload X287.here hx rfl (hb hby at_249) rfl ?_
              show own_S p e below m T287 251 #[lvI p0_, lvI p1_, lvI p2_, lvI p3_, lvI p4_, lvI i0_, lvI i1_, lvI i2_, lvI i3_, lvJ ((i0_.toInt64) + (i1_.toInt64)), .second, lvJ ((i2_.toInt64) + (i3_.toInt64)), .second, lvI (1 : Int32), lvJ (2 : Int64), .second, lvR b27, lvR b37, lvR b53, lvR nb2_264, lvR nb15_264, lvR nb121_264, lvJ (hi_.toInt64), .second, lvD l1_, .second, lvD l2_, .second, lvD pd1, .second, .unset, .unset, .unset, .unset, .unset, .unset, .unset, .unset, .unset] [(.int i1_), (.int (1 : Int32))] _
              refine XS.ifNo X287.here hx rfl (hb hby at_251) rfl ((if0 _ _).trans (tlt hj303_1).2.2.2) ?_
              refine XS.iconst X287.here hx rfl (hb hby at_254) ?_
              refine XS.goto X287.here hx rfl (pc0 := 255) (pc' := 259) rfl (hb hby at_255) (by decide) (by decide) ?_
              refine XS.iadd X287.here hx rfl (hb hby at_259) rfl ?_
              refine XS.istore X287.here hx rfl (hb hby at_260) rfl (l' := #[lvI p0_, lvI p1_, lvI p2_, lvI p3_, lvI p4_, lvI i0_, lvI i1_, lvI i2_, lvI i3_, lvJ ((i0_.toInt64) + (i1_.toInt64)), .second, lvJ ((i2_.toInt64) + (i3_.toInt64)), .second, lvI (1 : Int32), lvJ (2 : Int64), .second, lvR b27, lvR b37, lvR b53, lvR nb2_264, lvR nb15_264, lvR nb121_264, lvJ (hi_.toInt64), .second, lvD l1_, .second, lvD l2_, .second, lvD pd1, .second, lvI (2 : Int32), .unset, .unset, .unset, .unset, .unset, .unset, .unset, .unset]) rfl ?_
              refine XS.iload X287.here hx rfl (hb hby at_262) rfl ?_
              refine XS.iconst X287.here hx rfl (hb hby at_264) ?_
              show own_S p e below m T287 265 #[lvI p0_, lvI p1_, lvI p2_, lvI p3_, lvI p4_, lvI i0_, lvI i1_, lvI i2_, lvI i3_, lvJ ((i0_.toInt64) + (i1_.toInt64)), .second, lvJ ((i2_.toInt64) + (i3_.toInt64)), .second, lvI (1 : Int32), lvJ (2 : Int64), .second, lvR b27, lvR b37, lvR b53, lvR nb2_264, lvR nb15_264, lvR nb121_264, lvJ (hi_.toInt64), .second, lvD l1_, .second, lvD l2_, .second, lvD pd1, .second, lvI (2 : Int32), .unset, .unset, .unset, .unset, .unset, .unset, .unset, .unset] [(.int (2 : Int32)), (.int (2 : Int32))] _
              refine XS.icmpNo X287.here hx rfl (hb hby at_265) rfl (teq (by decide : (2 : Int32) = (2 : Int32))).2 ?_
              refine XS.dconst1 X287.here hx rfl (hb hby at_268) rfl ?_
              refine XS.goto X287.here hx rfl (pc0 := 269) (pc' := 285) rfl (hb hby at_269) (by decide) (by decide) ?_
              exact kt
            exact pre307 t (by rw [ej303_0, ej303_1] at kt; exact kt)
          · have pre308 : ∀ t, own_S p e below m T287 285 #[lvI p0_, lvI p1_, lvI p2_, lvI p3_, lvI p4_, lvI i0_, lvI i1_, lvI i2_, lvI i3_, lvJ ((i0_.toInt64) + (i1_.toInt64)), .second, lvJ ((i2_.toInt64) + (i3_.toInt64)), .second, lvI (1 : Int32), lvJ (2 : Int64), .second, lvR b27, lvR b37, lvR b53, lvR nb2_264, lvR nb15_264, lvR nb121_264, lvJ (hi_.toInt64), .second, lvD l1_, .second, lvD l2_, .second, lvD pd1, .second, lvI (1 : Int32), .unset, .unset, .unset, .unset, .unset, .unset, .unset, .unset] [(.double (4602678819172646912 : UInt64))] t → G t := by
              intro t kt
              refine pre301 t ?_
              show own_S p e below m T287 239 #[lvI p0_, lvI p1_, lvI p2_, lvI p3_, lvI p4_, lvI i0_, lvI i1_, lvI i2_, lvI i3_, lvJ ((i0_.toInt64) + (i1_.toInt64)), .second, lvJ ((i2_.toInt64) + (i3_.toInt64)), .second, lvI (1 : Int32), lvJ (2 : Int64), .second, lvR b27, lvR b37, lvR b53, lvR nb2_264, lvR nb15_264, lvR nb121_264, lvJ (hi_.toInt64), .second, lvD l1_, .second, lvD l2_, .second, lvD pd1, .second, .unset, .unset, .unset, .unset, .unset, .unset, .unset, .unset, .unset] [] _
              refine XS.iload X287.here hx rfl (hb hby at_239) rfl ?_
              show own_S p e below m T287 241 #[lvI p0_, lvI p1_, lvI p2_, lvI p3_, lvI p4_, lvI i0_, lvI i1_, lvI i2_, lvI i3_, lvJ ((i0_.toInt64) + (i1_.toInt64)), .second, lvJ ((i2_.toInt64) + (i3_.toInt64)), .second, lvI (1 : Int32), lvJ (2 : Int64), .second, lvR b27, lvR b37, lvR b53, lvR nb2_264, lvR nb15_264, lvR nb121_264, lvJ (hi_.toInt64), .second, lvD l1_, .second, lvD l2_, .second, lvD pd1, .second, .unset, .unset, .unset, .unset, .unset, .unset, .unset, .unset, .unset] [(.int i0_)] _
              refine XS.ifNo X287.here hx rfl (hb hby at_241) rfl ((if0 _ _).trans (tlt hj304_0).2.2.2) ?_
              refine XS.iconst X287.here hx rfl (hb hby at_244) ?_
              refine XS.goto X287.here hx rfl (pc0 := 245) (pc' := 249) rfl (hb hby at_245) (by decide) (by decide) ?_
              refine XS.iload X287.here hx rfl (hb hby at_249) rfl ?_
              show own_S p e below m T287 251 #[lvI p0_, lvI p1_, lvI p2_, lvI p3_, lvI p4_, lvI i0_, lvI i1_, lvI i2_, lvI i3_, lvJ ((i0_.toInt64) + (i1_.toInt64)), .second, lvJ ((i2_.toInt64) + (i3_.toInt64)), .second, lvI (1 : Int32), lvJ (2 : Int64), .second, lvR b27, lvR b37, lvR b53, lvR nb2_264, lvR nb15_264, lvR nb121_264, lvJ (hi_.toInt64), .second, lvD l1_, .second, lvD l2_, .second, lvD pd1, .second, .unset, .unset, .unset, .unset, .unset, .unset, .unset, .unset, .unset] [(.int i1_), (.int (1 : Int32))] _
              refine XS.ifYes X287.here hx rfl (pc0 := 251) (pc' := 258) rfl (hb hby at_251) rfl ((if0 _ _).trans (flt hj304_1).2.2.2) (by decide) (by decide) ?_
              refine XS.iconst X287.here hx rfl (hb hby at_258) ?_
              refine XS.iadd X287.here hx rfl (hb hby at_259) rfl ?_
              refine XS.istore X287.here hx rfl (hb hby at_260) rfl (l' := #[lvI p0_, lvI p1_, lvI p2_, lvI p3_, lvI p4_, lvI i0_, lvI i1_, lvI i2_, lvI i3_, lvJ ((i0_.toInt64) + (i1_.toInt64)), .second, lvJ ((i2_.toInt64) + (i3_.toInt64)), .second, lvI (1 : Int32), lvJ (2 : Int64), .second, lvR b27, lvR b37, lvR b53, lvR nb2_264, lvR nb15_264, lvR nb121_264, lvJ (hi_.toInt64), .second, lvD l1_, .second, lvD l2_, .second, lvD pd1, .second, lvI (1 : Int32), .unset, .unset, .unset, .unset, .unset, .unset, .unset, .unset]) rfl ?_
              refine XS.iload X287.here hx rfl (hb hby at_262) rfl ?_
              refine XS.iconst X287.here hx rfl (hb hby at_264) ?_
              show own_S p e below m T287 265 #[lvI p0_, lvI p1_, lvI p2_, lvI p3_, lvI p4_, lvI i0_, lvI i1_, lvI i2_, lvI i3_, lvJ ((i0_.toInt64) + (i1_.toInt64)), .second, lvJ ((i2_.toInt64) + (i3_.toInt64)), .second, lvI (1 : Int32), lvJ (2 : Int64), .second, lvR b27, lvR b37, lvR b53, lvR nb2_264, lvR nb15_264, lvR nb121_264, lvJ (hi_.toInt64), .second, lvD l1_, .second, lvD l2_, .second, lvD pd1, .second, lvI (1 : Int32), .unset, .unset, .unset, .unset, .unset, .unset, .unset, .unset] [(.int (2 : Int32)), (.int (1 : Int32))] _
              refine XS.icmpYes X287.here hx rfl (pc0 := 265) (pc' := 272) rfl (hb hby at_265) rfl (feq (by decide : ¬ ((1 : Int32) = (2 : Int32)))).2 (by decide) (by decide) ?_
              refine XS.iload X287.here hx rfl (hb hby at_272) rfl ?_
              refine XS.iconst X287.here hx rfl (hb hby at_274) ?_
              show own_S p e below m T287 275 #[lvI p0_, lvI p1_, lvI p2_, lvI p3_, lvI p4_, lvI i0_, lvI i1_, lvI i2_, lvI i3_, lvJ ((i0_.toInt64) + (i1_.toInt64)), .second, lvJ ((i2_.toInt64) + (i3_.toInt64)), .second, lvI (1 : Int32), lvJ (2 : Int64), .second, lvR b27, lvR b37, lvR b53, lvR nb2_264, lvR nb15_264, lvR nb121_264, lvJ (hi_.toInt64), .second, lvD l1_, .second, lvD l2_, .second, lvD pd1, .second, lvI (1 : Int32), .unset, .unset, .unset, .unset, .unset, .unset, .unset, .unset] [(.int (1 : Int32)), (.int (1 : Int32))] _
              refine XS.icmpNo X287.here hx rfl (hb hby at_275) rfl (teq (by decide : (1 : Int32) = (1 : Int32))).2 ?_
              show own_S p e below m T287 278 #[lvI p0_, lvI p1_, lvI p2_, lvI p3_, lvI p4_, lvI i0_, lvI i1_, lvI i2_, lvI i3_, lvJ ((i0_.toInt64) + (i1_.toInt64)), .second, lvJ ((i2_.toInt64) + (i3_.toInt64)), .second, lvI (1 : Int32), lvJ (2 : Int64), .second, lvR b27, lvR b37, lvR b53, lvR nb2_264, lvR nb15_264, lvR nb121_264, lvJ (hi_.toInt64), .second, lvD l1_, .second, lvD l2_, .second, lvD pd1, .second, lvI (1 : Int32), .unset, .unset, .unset, .unset, .unset, .unset, .unset, .unset] [] _
              refine X287.ldc2DoubleC hx hown (mvT hZ (own_w hw 184 rfl)) (g := (mkF m 278 #[lvI p0_, lvI p1_, lvI p2_, lvI p3_, lvI p4_, lvI i0_, lvI i1_, lvI i2_, lvI i3_, lvJ ((i0_.toInt64) + (i1_.toInt64)), .second, lvJ ((i2_.toInt64) + (i3_.toInt64)), .second, lvI (1 : Int32), lvJ (2 : Int64), .second, lvR b27, lvR b37, lvR b53, lvR nb2_264, lvR nb15_264, lvR nb121_264, lvJ (hi_.toInt64), .second, lvD l1_, .second, lvD l2_, .second, lvD pd1, .second, lvI (1 : Int32), .unset, .unset, .unset, .unset, .unset, .unset, .unset, .unset] [])) rfl (hb hby at_278) _ ?_
              refine XS.goto X287.here hx rfl (pc0 := 281) (pc' := 285) rfl (hb hby at_281) (by decide) (by decide) ?_
              exact kt
            exact pre308 t (by rw [ej304_0, ej304_1] at kt; exact kt)
          · have pre309 : ∀ t, own_S p e below m T287 285 #[lvI p0_, lvI p1_, lvI p2_, lvI p3_, lvI p4_, lvI i0_, lvI i1_, lvI i2_, lvI i3_, lvJ ((i0_.toInt64) + (i1_.toInt64)), .second, lvJ ((i2_.toInt64) + (i3_.toInt64)), .second, lvI (1 : Int32), lvJ (2 : Int64), .second, lvR b27, lvR b37, lvR b53, lvR nb2_264, lvR nb15_264, lvR nb121_264, lvJ (hi_.toInt64), .second, lvD l1_, .second, lvD l2_, .second, lvD pd1, .second, lvI (1 : Int32), .unset, .unset, .unset, .unset, .unset, .unset, .unset, .unset] [(.double (4602678819172646912 : UInt64))] t → G t := by
              intro t kt
              refine pre301 t ?_
              show own_S p e below m T287 239 #[lvI p0_, lvI p1_, lvI p2_, lvI p3_, lvI p4_, lvI i0_, lvI i1_, lvI i2_, lvI i3_, lvJ ((i0_.toInt64) + (i1_.toInt64)), .second, lvJ ((i2_.toInt64) + (i3_.toInt64)), .second, lvI (1 : Int32), lvJ (2 : Int64), .second, lvR b27, lvR b37, lvR b53, lvR nb2_264, lvR nb15_264, lvR nb121_264, lvJ (hi_.toInt64), .second, lvD l1_, .second, lvD l2_, .second, lvD pd1, .second, .unset, .unset, .unset, .unset, .unset, .unset, .unset, .unset, .unset] [] _
              refine XS.iload X287.here hx rfl (hb hby at_239) rfl ?_
              show own_S p e below m T287 241 #[lvI p0_, lvI p1_, lvI p2_, lvI p3_, lvI p4_, lvI i0_, lvI i1_, lvI i2_, lvI i3_, lvJ ((i0_.toInt64) + (i1_.toInt64)), .second, lvJ ((i2_.toInt64) + (i3_.toInt64)), .second, lvI (1 : Int32), lvJ (2 : Int64), .second, lvR b27, lvR b37, lvR b53, lvR nb2_264, lvR nb15_264, lvR nb121_264, lvJ (hi_.toInt64), .second, lvD l1_, .second, lvD l2_, .second, lvD pd1, .second, .unset, .unset, .unset, .unset, .unset, .unset, .unset, .unset, .unset] [(.int i0_)] _
              refine XS.ifYes X287.here hx rfl (pc0 := 241) (pc' := 248) rfl (hb hby at_241) rfl ((if0 _ _).trans (flt hj305_0).2.2.2) (by decide) (by decide) ?_
              refine XS.iconst X287.here hx rfl (hb hby at_248) ?_
              refine XS.iload X287.here hx rfl (hb hby at_249) rfl ?_
              show own_S p e below m T287 251 #[lvI p0_, lvI p1_, lvI p2_, lvI p3_, lvI p4_, lvI i0_, lvI i1_, lvI i2_, lvI i3_, lvJ ((i0_.toInt64) + (i1_.toInt64)), .second, lvJ ((i2_.toInt64) + (i3_.toInt64)), .second, lvI (1 : Int32), lvJ (2 : Int64), .second, lvR b27, lvR b37, lvR b53, lvR nb2_264, lvR nb15_264, lvR nb121_264, lvJ (hi_.toInt64), .second, lvD l1_, .second, lvD l2_, .second, lvD pd1, .second, .unset, .unset, .unset, .unset, .unset, .unset, .unset, .unset, .unset] [(.int i1_), (.int (0 : Int32))] _
              refine XS.ifNo X287.here hx rfl (hb hby at_251) rfl ((if0 _ _).trans (tlt hj305_1).2.2.2) ?_
              refine XS.iconst X287.here hx rfl (hb hby at_254) ?_
              refine XS.goto X287.here hx rfl (pc0 := 255) (pc' := 259) rfl (hb hby at_255) (by decide) (by decide) ?_
              refine XS.iadd X287.here hx rfl (hb hby at_259) rfl ?_
              refine XS.istore X287.here hx rfl (hb hby at_260) rfl (l' := #[lvI p0_, lvI p1_, lvI p2_, lvI p3_, lvI p4_, lvI i0_, lvI i1_, lvI i2_, lvI i3_, lvJ ((i0_.toInt64) + (i1_.toInt64)), .second, lvJ ((i2_.toInt64) + (i3_.toInt64)), .second, lvI (1 : Int32), lvJ (2 : Int64), .second, lvR b27, lvR b37, lvR b53, lvR nb2_264, lvR nb15_264, lvR nb121_264, lvJ (hi_.toInt64), .second, lvD l1_, .second, lvD l2_, .second, lvD pd1, .second, lvI (1 : Int32), .unset, .unset, .unset, .unset, .unset, .unset, .unset, .unset]) rfl ?_
              refine XS.iload X287.here hx rfl (hb hby at_262) rfl ?_
              refine XS.iconst X287.here hx rfl (hb hby at_264) ?_
              show own_S p e below m T287 265 #[lvI p0_, lvI p1_, lvI p2_, lvI p3_, lvI p4_, lvI i0_, lvI i1_, lvI i2_, lvI i3_, lvJ ((i0_.toInt64) + (i1_.toInt64)), .second, lvJ ((i2_.toInt64) + (i3_.toInt64)), .second, lvI (1 : Int32), lvJ (2 : Int64), .second, lvR b27, lvR b37, lvR b53, lvR nb2_264, lvR nb15_264, lvR nb121_264, lvJ (hi_.toInt64), .second, lvD l1_, .second, lvD l2_, .second, lvD pd1, .second, lvI (1 : Int32), .unset, .unset, .unset, .unset, .unset, .unset, .unset, .unset] [(.int (2 : Int32)), (.int (1 : Int32))] _
              refine XS.icmpYes X287.here hx rfl (pc0 := 265) (pc' := 272) rfl (hb hby at_265) rfl (feq (by decide : ¬ ((1 : Int32) = (2 : Int32)))).2 (by decide) (by decide) ?_
              refine XS.iload X287.here hx rfl (hb hby at_272) rfl ?_
              refine XS.iconst X287.here hx rfl (hb hby at_274) ?_
              show own_S p e below m T287 275 #[lvI p0_, lvI p1_, lvI p2_, lvI p3_, lvI p4_, lvI i0_, lvI i1_, lvI i2_, lvI i3_, lvJ ((i0_.toInt64) + (i1_.toInt64)), .second, lvJ ((i2_.toInt64) + (i3_.toInt64)), .second, lvI (1 : Int32), lvJ (2 : Int64), .second, lvR b27, lvR b37, lvR b53, lvR nb2_264, lvR nb15_264, lvR nb121_264, lvJ (hi_.toInt64), .second, lvD l1_, .second, lvD l2_, .second, lvD pd1, .second, lvI (1 : Int32), .unset, .unset, .unset, .unset, .unset, .unset, .unset, .unset] [(.int (1 : Int32)), (.int (1 : Int32))] _
              refine XS.icmpNo X287.here hx rfl (hb hby at_275) rfl (teq (by decide : (1 : Int32) = (1 : Int32))).2 ?_
              show own_S p e below m T287 278 #[lvI p0_, lvI p1_, lvI p2_, lvI p3_, lvI p4_, lvI i0_, lvI i1_, lvI i2_, lvI i3_, lvJ ((i0_.toInt64) + (i1_.toInt64)), .second, lvJ ((i2_.toInt64) + (i3_.toInt64)), .second, lvI (1 : Int32), lvJ (2 : Int64), .second, lvR b27, lvR b37, lvR b53, lvR nb2_264, lvR nb15_264, lvR nb121_264, lvJ (hi_.toInt64), .second, lvD l1_, .second, lvD l2_, .second, lvD pd1, .second, lvI (1 : Int32), .unset, .unset, .unset, .unset, .unset, .unset, .unset, .unset] [] _
              refine X287.ldc2DoubleC hx hown (mvT hZ (own_w hw 184 rfl)) (g := (mkF m 278 #[lvI p0_, lvI p1_, lvI p2_, lvI p3_, lvI p4_, lvI i0_, lvI i1_, lvI i2_, lvI i3_, lvJ ((i0_.toInt64) + (i1_.toInt64)), .second, lvJ ((i2_.toInt64) + (i3_.toInt64)), .second, lvI (1 : Int32), lvJ (2 : Int64), .second, lvR b27, lvR b37, lvR b53, lvR nb2_264, lvR nb15_264, lvR nb121_264, lvJ (hi_.toInt64), .second, lvD l1_, .second, lvD l2_, .second, lvD pd1, .second, lvI (1 : Int32), .unset, .unset, .unset, .unset, .unset, .unset, .unset, .unset] [])) rfl (hb hby at_278) _ ?_
              refine XS.goto X287.here hx rfl (pc0 := 281) (pc' := 285) rfl (hb hby at_281) (by decide) (by decide) ?_
              exact kt
            exact pre309 t (by rw [ej305_0, ej305_1] at kt; exact kt)
          · have pre310 : ∀ t, own_S p e below m T287 285 #[lvI p0_, lvI p1_, lvI p2_, lvI p3_, lvI p4_, lvI i0_, lvI i1_, lvI i2_, lvI i3_, lvJ ((i0_.toInt64) + (i1_.toInt64)), .second, lvJ ((i2_.toInt64) + (i3_.toInt64)), .second, lvI (1 : Int32), lvJ (2 : Int64), .second, lvR b27, lvR b37, lvR b53, lvR nb2_264, lvR nb15_264, lvR nb121_264, lvJ (hi_.toInt64), .second, lvD l1_, .second, lvD l2_, .second, lvD pd1, .second, lvI (0 : Int32), .unset, .unset, .unset, .unset, .unset, .unset, .unset, .unset] [(.double (0 : UInt64))] t → G t := by
              intro t kt
              refine pre301 t ?_
              show own_S p e below m T287 239 #[lvI p0_, lvI p1_, lvI p2_, lvI p3_, lvI p4_, lvI i0_, lvI i1_, lvI i2_, lvI i3_, lvJ ((i0_.toInt64) + (i1_.toInt64)), .second, lvJ ((i2_.toInt64) + (i3_.toInt64)), .second, lvI (1 : Int32), lvJ (2 : Int64), .second, lvR b27, lvR b37, lvR b53, lvR nb2_264, lvR nb15_264, lvR nb121_264, lvJ (hi_.toInt64), .second, lvD l1_, .second, lvD l2_, .second, lvD pd1, .second, .unset, .unset, .unset, .unset, .unset, .unset, .unset, .unset, .unset] [] _
              refine XS.iload X287.here hx rfl (hb hby at_239) rfl ?_
              show own_S p e below m T287 241 #[lvI p0_, lvI p1_, lvI p2_, lvI p3_, lvI p4_, lvI i0_, lvI i1_, lvI i2_, lvI i3_, lvJ ((i0_.toInt64) + (i1_.toInt64)), .second, lvJ ((i2_.toInt64) + (i3_.toInt64)), .second, lvI (1 : Int32), lvJ (2 : Int64), .second, lvR b27, lvR b37, lvR b53, lvR nb2_264, lvR nb15_264, lvR nb121_264, lvJ (hi_.toInt64), .second, lvD l1_, .second, lvD l2_, .second, lvD pd1, .second, .unset, .unset, .unset, .unset, .unset, .unset, .unset, .unset, .unset] [(.int i0_)] _
              refine XS.ifYes X287.here hx rfl (pc0 := 241) (pc' := 248) rfl (hb hby at_241) rfl ((if0 _ _).trans (flt hj306_0).2.2.2) (by decide) (by decide) ?_
              refine XS.iconst X287.here hx rfl (hb hby at_248) ?_
              refine XS.iload X287.here hx rfl (hb hby at_249) rfl ?_
              show own_S p e below m T287 251 #[lvI p0_, lvI p1_, lvI p2_, lvI p3_, lvI p4_, lvI i0_, lvI i1_, lvI i2_, lvI i3_, lvJ ((i0_.toInt64) + (i1_.toInt64)), .second, lvJ ((i2_.toInt64) + (i3_.toInt64)), .second, lvI (1 : Int32), lvJ (2 : Int64), .second, lvR b27, lvR b37, lvR b53, lvR nb2_264, lvR nb15_264, lvR nb121_264, lvJ (hi_.toInt64), .second, lvD l1_, .second, lvD l2_, .second, lvD pd1, .second, .unset, .unset, .unset, .unset, .unset, .unset, .unset, .unset, .unset] [(.int i1_), (.int (0 : Int32))] _
              refine XS.ifYes X287.here hx rfl (pc0 := 251) (pc' := 258) rfl (hb hby at_251) rfl ((if0 _ _).trans (flt hj306_1).2.2.2) (by decide) (by decide) ?_
              refine XS.iconst X287.here hx rfl (hb hby at_258) ?_
              refine XS.iadd X287.here hx rfl (hb hby at_259) rfl ?_
              refine XS.istore X287.here hx rfl (hb hby at_260) rfl (l' := #[lvI p0_, lvI p1_, lvI p2_, lvI p3_, lvI p4_, lvI i0_, lvI i1_, lvI i2_, lvI i3_, lvJ ((i0_.toInt64) + (i1_.toInt64)), .second, lvJ ((i2_.toInt64) + (i3_.toInt64)), .second, lvI (1 : Int32), lvJ (2 : Int64), .second, lvR b27, lvR b37, lvR b53, lvR nb2_264, lvR nb15_264, lvR nb121_264, lvJ (hi_.toInt64), .second, lvD l1_, .second, lvD l2_, .second, lvD pd1, .second, lvI (0 : Int32), .unset, .unset, .unset, .unset, .unset, .unset, .unset, .unset]) rfl ?_
              refine XS.iload X287.here hx rfl (hb hby at_262) rfl ?_
              refine XS.iconst X287.here hx rfl (hb hby at_264) ?_
              show own_S p e below m T287 265 #[lvI p0_, lvI p1_, lvI p2_, lvI p3_, lvI p4_, lvI i0_, lvI i1_, lvI i2_, lvI i3_, lvJ ((i0_.toInt64) + (i1_.toInt64)), .second, lvJ ((i2_.toInt64) + (i3_.toInt64)), .second, lvI (1 : Int32), lvJ (2 : Int64), .second, lvR b27, lvR b37, lvR b53, lvR nb2_264, lvR nb15_264, lvR nb121_264, lvJ (hi_.toInt64), .second, lvD l1_, .second, lvD l2_, .second, lvD pd1, .second, lvI (0 : Int32), .unset, .unset, .unset, .unset, .unset, .unset, .unset, .unset] [(.int (2 : Int32)), (.int (0 : Int32))] _
              refine XS.icmpYes X287.here hx rfl (pc0 := 265) (pc' := 272) rfl (hb hby at_265) rfl (feq (by decide : ¬ ((0 : Int32) = (2 : Int32)))).2 (by decide) (by decide) ?_
              refine XS.iload X287.here hx rfl (hb hby at_272) rfl ?_
              refine XS.iconst X287.here hx rfl (hb hby at_274) ?_
              show own_S p e below m T287 275 #[lvI p0_, lvI p1_, lvI p2_, lvI p3_, lvI p4_, lvI i0_, lvI i1_, lvI i2_, lvI i3_, lvJ ((i0_.toInt64) + (i1_.toInt64)), .second, lvJ ((i2_.toInt64) + (i3_.toInt64)), .second, lvI (1 : Int32), lvJ (2 : Int64), .second, lvR b27, lvR b37, lvR b53, lvR nb2_264, lvR nb15_264, lvR nb121_264, lvJ (hi_.toInt64), .second, lvD l1_, .second, lvD l2_, .second, lvD pd1, .second, lvI (0 : Int32), .unset, .unset, .unset, .unset, .unset, .unset, .unset, .unset] [(.int (1 : Int32)), (.int (0 : Int32))] _
              refine XS.icmpYes X287.here hx rfl (pc0 := 275) (pc' := 284) rfl (hb hby at_275) rfl (feq (by decide : ¬ ((0 : Int32) = (1 : Int32)))).2 (by decide) (by decide) ?_
              refine XS.dconst0 X287.here hx rfl (hb hby at_284) rfl ?_
              exact kt
            exact pre310 t (by rw [ej306_0, ej306_1] at kt; exact kt)
        have hn311 : Jvm.Free.Fl.NoNaN64 (FP.ddiv (FP.i2d i2_) (FP.l2d ((i2_.toInt64) + (i3_.toInt64)))) := own_l3 HM
        have pre312 : ∀ t, own_S p e below m T287 294 #[lvI p0_, lvI p1_, lvI p2_, lvI p3_, lvI p4_, lvI i0_, lvI i1_, lvI i2_, lvI i3_, lvJ ((i0_.toInt64) + (i1_.toInt64)), .second, lvJ ((i2_.toInt64) + (i3_.toInt64)), .second, lvI (1 : Int32), lvJ (2 : Int64), .second, lvR b27, lvR b37, lvR b53, lvR nb2_264, lvR nb15_264, lvR nb121_264, lvJ (hi_.toInt64), .second, lvD l1_, .second, lvD l2_, .second, lvD pd1, .second, lvI hd, lvD pd2, .second, .unset, .unset, .unset, .unset, .unset, .unset] [(.double (FP.ddiv (FP.i2d i2_) (FP.l2d ((i2_.toInt64) + (i3_.toInt64)))))] t → G t := by
          intro t kt
          refine pre302 t ?_
          show own_S p e below m T287 285 #[lvI p0_, lvI p1_, lvI p2_, lvI p3_, lvI p4_, lvI i0_, lvI i1_, lvI i2_, lvI i3_, lvJ ((i0_.toInt64) + (i1_.toInt64)), .second, lvJ ((i2_.toInt64) + (i3_.toInt64)), .second, lvI (1 : Int32), lvJ (2 : Int64), .second, lvR b27, lvR b37, lvR b53, lvR nb2_264, lvR nb15_264, lvR nb121_264, lvJ (hi_.toInt64), .second, lvD l1_, .second, lvD l2_, .second, lvD pd1, .second, lvI hd, .unset, .unset, .unset, .unset, .unset, .unset, .unset, .unset] [(.double pd2)] _
          refine XS.dstore X287.here hx rfl (hb hby at_285) rfl (l' := #[lvI p0_, lvI p1_, lvI p2_, lvI p3_, lvI p4_, lvI i0_, lvI i1_, lvI i2_, lvI i3_, lvJ ((i0_.toInt64) + (i1_.toInt64)), .second, lvJ ((i2_.toInt64) + (i3_.toInt64)), .second, lvI (1 : Int32), lvJ (2 : Int64), .second, lvR b27, lvR b37, lvR b53, lvR nb2_264, lvR nb15_264, lvR nb121_264, lvJ (hi_.toInt64), .second, lvD l1_, .second, lvD l2_, .second, lvD pd1, .second, lvI hd, lvD pd2, .second, .unset, .unset, .unset, .unset, .unset, .unset]) rfl ?_
          refine XS.iload X287.here hx rfl (hb hby at_287) rfl ?_
          refine XS.i2dS X287.here hx rfl (hb hby at_289) rfl rfl ?_
          refine XS.lload X287.here hx rfl (hb hby at_290) rfl ?_
          refine XS.l2dS X287.here hx rfl (hb hby at_292) rfl rfl ?_
          refine XS.ddivS X287.here hx rfl (hb hby at_293) rfl hn311 rfl ?_
          exact kt
        obtain ⟨l3_, el3⟩ : ∃ z, z = (FP.ddiv (FP.i2d i2_) (FP.l2d ((i2_.toInt64) + (i3_.toInt64)))) := ⟨_, rfl⟩
        have pre313 : ∀ t, own_S p e below m T287 294 #[lvI p0_, lvI p1_, lvI p2_, lvI p3_, lvI p4_, lvI i0_, lvI i1_, lvI i2_, lvI i3_, lvJ ((i0_.toInt64) + (i1_.toInt64)), .second, lvJ ((i2_.toInt64) + (i3_.toInt64)), .second, lvI (1 : Int32), lvJ (2 : Int64), .second, lvR b27, lvR b37, lvR b53, lvR nb2_264, lvR nb15_264, lvR nb121_264, lvJ (hi_.toInt64), .second, lvD l1_, .second, lvD l2_, .second, lvD pd1, .second, lvI hd, lvD pd2, .second, .unset, .unset, .unset, .unset, .unset, .unset] [(.double l3_)] t → G t := fun t kt => pre312 t (by rw [← el3]; exact kt)
        have hn314 : Jvm.Free.Fl.NoNaN64 (FP.ddiv (FP.l2d ((2 : Int64) * (i0_.toInt64))) (FP.l2d ((2 : Int64) * (hi_.toInt64)))) := own_l42 HM hS
        have pre315 : ∀ t, own_S p e below m T287 310 #[lvI p0_, lvI p1_, lvI p2_, lvI p3_, lvI p4_, lvI i0_, lvI i1_, lvI i2_, lvI i3_, lvJ ((i0_.toInt64) + (i1_.toInt64)), .second, lvJ ((i2_.toInt64) + (i3_.toInt64)), .second, lvI (1 : Int32), lvJ (2 : Int64), .second, lvR b27, lvR b37, lvR b53, lvR nb2_264, lvR nb15_264, lvR nb121_264, lvJ (hi_.toInt64), .second, lvD l1_, .second, lvD l2_, .second, lvD pd1, .second, lvI hd, lvD pd2, .second, lvD l3_, .second, .unset, .unset, .unset, .unset] [(.double (FP.ddiv (FP.l2d ((2 : Int64) * (i0_.toInt64))) (FP.l2d ((2 : Int64) * (hi_.toInt64)))))] t → G t := by
          intro t kt
          refine pre313 t ?_
          show own_S p e below m T287 294 #[lvI p0_, lvI p1_, lvI p2_, lvI p3_, lvI p4_, lvI i0_, lvI i1_, lvI i2_, lvI i3_, lvJ ((i0_.toInt64) + (i1_.toInt64)), .second, lvJ ((i2_.toInt64) + (i3_.toInt64)), .second, lvI (1 : Int32), lvJ (2 : Int64), .second, lvR b27, lvR b37, lvR b53, lvR nb2_264, lvR nb15_264, lvR nb121_264, lvJ (hi_.toInt64), .second, lvD l1_, .second, lvD l2_, .second, lvD pd1, .second, lvI hd, lvD pd2, .second, .unset, .unset, .unset, .unset, .unset, .unset] [(.double l3_)] _
          refine XS.dstore X287.here hx rfl (hb hby at_294) rfl (l' := #[lvI p0_, lvI p1_, lvI p2_, lvI p3_, lvI p4_, lvI i0_, lvI i1_, lvI i2_, lvI i3_, lvJ ((i0_.toInt64) + (i1_.toInt64)), .second, lvJ ((i2_.toInt64) + (i3_.toInt64)), .second, lvI (1 : Int32), lvJ (2 : Int64), .second, lvR b27, lvR b37, lvR b53, lvR nb2_264, lvR nb15_264, lvR nb121_264, lvJ (hi_.toInt64), .second, lvD l1_, .second, lvD l2_, .second, lvD pd1, .second, lvI hd, lvD pd2, .second, lvD l3_, .second, .unset, .unset, .unset, .unset]) rfl ?_
          refine XS.lload X287.here hx rfl (hb hby at_296) rfl ?_
          refine XS.iload X287.here hx rfl (hb hby at_298) rfl ?_
          refine XS.i2l X287.here hx rfl (hb hby at_300) rfl ?_
          refine XS.lmul X287.here hx rfl (hb hby at_301) rfl ?_
          refine XS.l2dS X287.here hx rfl (hb hby at_302) rfl rfl ?_
          refine XS.lload X287.here hx rfl (hb hby at_303) rfl ?_
          refine XS.lload X287.here hx rfl (hb hby at_305) rfl ?_
          show own_S p e below m T287 307 #[lvI p0_, lvI p1_, lvI p2_, lvI p3_, lvI p4_, lvI i0_, lvI i1_, lvI i2_, lvI i3_, lvJ ((i0_.toInt64) + (i1_.toInt64)), .second, lvJ ((i2_.toInt64) + (i3_.toInt64)), .second, lvI (1 : Int32), lvJ (2 : Int64), .second, lvR b27, lvR b37, lvR b53, lvR nb2_264, lvR nb15_264, lvR nb121_264, lvJ (hi_.toInt64), .second, lvD l1_, .second, lvD l2_, .second, lvD pd1, .second, lvI hd, lvD pd2, .second, lvD l3_, .second, .unset, .unset, .unset, .unset] [(.long (hi_.toInt64)), (.long (2 : Int64)), (.double (FP.l2d ((2 : Int64) * (i0_.toInt64))))] _
          refine XS.lmul X287.here hx rfl (hb hby at_307) rfl ?_
          refine XS.l2dS X287.here hx rfl (hb hby at_308) rfl rfl ?_
          refine XS.ddivS X287.here hx rfl (hb hby at_309) rfl hn314 rfl ?_
          exact kt
        obtain ⟨l4_, el4⟩ : ∃ z, z = (FP.ddiv (FP.l2d ((2 : Int64) * (i0_.toInt64))) (FP.l2d ((2 : Int64) * (hi_.toInt64)))) := ⟨_, rfl⟩
        have pre316 : ∀ t, own_S p e below m T287 310 #[lvI p0_, lvI p1_, lvI p2_, lvI p3_, lvI p4_, lvI i0_, lvI i1_, lvI i2_, lvI i3_, lvJ ((i0_.toInt64) + (i1_.toInt64)), .second, lvJ ((i2_.toInt64) + (i3_.toInt64)), .second, lvI (1 : Int32), lvJ (2 : Int64), .second, lvR b27, lvR b37, lvR b53, lvR nb2_264, lvR nb15_264, lvR nb121_264, lvJ (hi_.toInt64), .second, lvD l1_, .second, lvD l2_, .second, lvD pd1, .second, lvI hd, lvD pd2, .second, lvD l3_, .second, .unset, .unset, .unset, .unset] [(.double l4_)] t → G t := fun t kt => pre315 t (by rw [← el4]; exact kt)
        have hn317 : Jvm.Free.Fl.NoNaN64 (FP.ddiv (FP.l2d ((2 : Int64) * (i0_.toInt64))) (FP.l2d ((2 : Int64) * ((i0_.toInt64) + (i1_.toInt64))))) := own_l52 HM
        have pre318 : ∀ t, own_S p e below m T287 326 #[lvI p0_, lvI p1_, lvI p2_, lvI p3_, lvI p4_, lvI i0_, lvI i1_, lvI i2_, lvI i3_, lvJ ((i0_.toInt64) + (i1_.toInt64)), .second, lvJ ((i2_.toInt64) + (i3_.toInt64)), .second, lvI (1 : Int32), lvJ (2 : Int64), .second, lvR b27, lvR b37, lvR b53, lvR nb2_264, lvR nb15_264, lvR nb121_264, lvJ (hi_.toInt64), .second, lvD l1_, .second, lvD l2_, .second, lvD pd1, .second, lvI hd, lvD pd2, .second, lvD l3_, .second, lvD l4_, .second, .unset, .unset] [(.double (FP.ddiv (FP.l2d ((2 : Int64) * (i0_.toInt64))) (FP.l2d ((2 : Int64) * ((i0_.toInt64) + (i1_.toInt64))))))] t → G t := by
          intro t kt
          refine pre316 t ?_
          show own_S p e below m T287 310 #[lvI p0_, lvI p1_, lvI p2_, lvI p3_, lvI p4_, lvI i0_, lvI i1_, lvI i2_, lvI i3_, lvJ ((i0_.toInt64) + (i1_.toInt64)), .second, lvJ ((i2_.toInt64) + (i3_.toInt64)), .second, lvI (1 : Int32), lvJ (2 : Int64), .second, lvR b27, lvR b37, lvR b53, lvR nb2_264, lvR nb15_264, lvR nb121_264, lvJ (hi_.toInt64), .second, lvD l1_, .second, lvD l2_, .second, lvD pd1, .second, lvI hd, lvD pd2, .second, lvD l3_, .second, .unset, .unset, .unset, .unset] [(.double l4_)] _
          refine XS.dstore X287.here hx rfl (hb hby at_310) rfl (l' := #[lvI p0_, lvI p1_, lvI p2_, lvI p3_, lvI p4_, lvI i0_, lvI i1_, lvI i2_, lvI i3_, lvJ ((i0_.toInt64) + (i1_.toInt64)), .second, lvJ ((i2_.toInt64) + (i3_.toInt64)), .second, lvI (1 : Int32), lvJ (2 : Int64), .second, lvR b27, lvR b37, lvR b53, lvR nb2_264, lvR nb15_264, lvR nb121_264, lvJ (hi_.toInt64), .second, lvD l1_, .second, lvD l2_, .second, lvD pd1, .second, lvI hd, lvD pd2, .second, lvD l3_, .second, lvD l4_, .second, .unset, .unset]) rfl ?_
          refine XS.lload X287.here hx rfl (hb hby at_312) rfl ?_
          refine XS.iload X287.here hx rfl (hb hby at_314) rfl ?_
          refine XS.i2l X287.here hx rfl (hb hby at_316) rfl ?_
          refine XS.lmul X287.here hx rfl (hb hby at_317) rfl ?_
          refine XS.l2dS X287.here hx rfl (hb hby at_318) rfl rfl ?_
          refine XS.lload X287.here hx rfl (hb hby at_319) rfl ?_
          refine XS.lload X287.here hx rfl (hb hby at_321) rfl ?_
          show own_S p e below m T287 323 #[lvI p0_, lvI p1_, lvI p2_, lvI p3_, lvI p4_, lvI i0_, lvI i1_, lvI i2_, lvI i3_, lvJ ((i0_.toInt64) + (i1_.toInt64)), .second, lvJ ((i2_.toInt64) + (i3_.toInt64)), .second, lvI (1 : Int32), lvJ (2 : Int64), .second, lvR b27, lvR b37, lvR b53, lvR nb2_264, lvR nb15_264, lvR nb121_264, lvJ (hi_.toInt64), .second, lvD l1_, .second, lvD l2_, .second, lvD pd1, .second, lvI hd, lvD pd2, .second, lvD l3_, .second, lvD l4_, .second, .unset, .unset] [(.long ((i0_.toInt64) + (i1_.toInt64))), (.long (2 : Int64)), (.double (FP.l2d ((2 : Int64) * (i0_.toInt64))))] _
          refine XS.lmul X287.here hx rfl (hb hby at_323) rfl ?_
          refine XS.l2dS X287.here hx rfl (hb hby at_324) rfl rfl ?_
          refine XS.ddivS X287.here hx rfl (hb hby at_325) rfl hn317 rfl ?_
          exact kt
        obtain ⟨l5_, el5⟩ : ∃ z, z = (FP.ddiv (FP.l2d ((2 : Int64) * (i0_.toInt64))) (FP.l2d ((2 : Int64) * ((i0_.toInt64) + (i1_.toInt64))))) := ⟨_, rfl⟩
        have pre319 : ∀ t, own_S p e below m T287 326 #[lvI p0_, lvI p1_, lvI p2_, lvI p3_, lvI p4_, lvI i0_, lvI i1_, lvI i2_, lvI i3_, lvJ ((i0_.toInt64) + (i1_.toInt64)), .second, lvJ ((i2_.toInt64) + (i3_.toInt64)), .second, lvI (1 : Int32), lvJ (2 : Int64), .second, lvR b27, lvR b37, lvR b53, lvR nb2_264, lvR nb15_264, lvR nb121_264, lvJ (hi_.toInt64), .second, lvD l1_, .second, lvD l2_, .second, lvD pd1, .second, lvI hd, lvD pd2, .second, lvD l3_, .second, lvD l4_, .second, .unset, .unset] [(.double l5_)] t → G t := fun t kt => pre318 t (by rw [← el5]; exact kt)
        obtain ⟨cq320, kq320, q320a, q320b, q320c⟩ := isOf hZ e287' g264_4
        obtain ⟨_, _, ⟨T320, L320, k320, n320⟩, -, X320, ⟨Lc320, hQ320, l320, y320, z320⟩, st320⟩ := X287.virtualBack hx (y := (⟨"com/example/shortlist/shortlist/SelectionMeasures$Row", "r", "()D"⟩ : MethodName)) (z := (⟨"com/example/shortlist/shortlist/SelectionMeasures$Row", "r", "()D"⟩ : MethodName)) hown (mvT hZ (own_w hw 185 rfl)) (mvT hZ (own_w hw 186 rfl)) (notFace_of_selects (args := #[]) (mvT hZ (own_w hw 188 rfl))) (mvT hZ (own_w hw 188 rfl)) (mvT hZ (own_w hw 187 rfl)) (by decide) (backOf (W := 0) (rmRowr l Z a0 hw [] nb15_264 (FP.ddiv (FP.dadd (FP.dadd (0 : UInt64) qr0) qr0) (FP.i2d (((0 : Int32) + (1 : Int32)) + (1 : Int32)))) h264 n0 f279 g264_6) hZ (own_w hw 189 rfl) (own_w hw 93 rfl) (by decide) (by decide)) q320a q320c (g := (mkF m 330 #[lvI p0_, lvI p1_, lvI p2_, lvI p3_, lvI p4_, lvI i0_, lvI i1_, lvI i2_, lvI i3_, lvJ ((i0_.toInt64) + (i1_.toInt64)), .second, lvJ ((i2_.toInt64) + (i3_.toInt64)), .second, lvI (1 : Int32), lvJ (2 : Int64), .second, lvR b27, lvR b37, lvR b53, lvR nb2_264, lvR nb15_264, lvR nb121_264, lvJ (hi_.toInt64), .second, lvD l1_, .second, lvD l2_, .second, lvD pd1, .second, lvI hd, lvD pd2, .second, lvD l3_, .second, lvD l4_, .second, lvD l5_, .second] [(.ref nb15_264)])) rfl (by rw [hml]; rfl) (Steps.refl _) (argsL := []) (rest := []) (lenOf pd_18 rfl) rfl (by show 2 * 0 + _ ≤ _; exact Nat.le_of_eq rfl) (hb hby at_330) (fun _ _ => ⟨rfl, e287', (by decide : 15 + 0 ≤ _), (by decide : 56 + 0 ≤ _)⟩)
        dsimp only [Pt.U, Pt.locs, Pt.cells, Pt.slots] at X320 l320 y320 z320 st320 hQ320
        subst l320 y320 z320
        obtain ⟨h320, e320⟩ : ∃ z, T320.heap = z := ⟨_, rfl⟩
        rw [e320] at hQ320
        obtain ⟨rfl, N320q, hh320⟩ := hQ320
        have N321 := Fr.app N288 N320q
        have e320' : T320.heap = h264 := e320.trans hh320
        have hn322 : (cmpValue (FP.dcmp (FP.ddiv (FP.dadd (FP.dadd (0 : UInt64) qr0) qr0) (FP.i2d (((0 : Int32) + (1 : Int32)) + (1 : Int32)))) l1_) .l) = (0 : Int32) := by rw [el1, ← eqr0]; exact own_rr2 (own_z2 _) (by rw [Int64.zero_add]) (own_h1 HM hS).1
        obtain ⟨cq323, kq323, q323a, q323b, q323c⟩ := isOf hZ e320' g264_4
        obtain ⟨_, _, ⟨T323, L323, k323, n323⟩, -, X323, ⟨Lc323, hQ323, l323, y323, z323⟩, st323⟩ := X320.virtualBack hx (y := mn6) (z := mn6) hown (mvT hZ (own_w hw 190 rfl)) (mvT hZ (own_w hw 191 rfl)) (notFace_of_selects (args := #[]) (mvT hZ (own_w hw 193 rfl))) (mvT hZ (own_w hw 193 rfl)) (mvT hZ (own_w hw 192 rfl)) (by decide) (backOf (W := 0) (rmRowrHat l Z a0 hw [] nb15_264 (FP.ddiv (FP.dadd (FP.dadd (0 : UInt64) qh0) qh0) (FP.i2d (((0 : Int32) + (1 : Int32)) + (1 : Int32)))) h264 n0 f279 g264_7) hZ (own_w hw 194 rfl) (own_w hw 93 rfl) (by decide) (by decide)) q323a q323c (g := (mkF m 341 #[lvI p0_, lvI p1_, lvI p2_, lvI p3_, lvI p4_, lvI i0_, lvI i1_, lvI i2_, lvI i3_, lvJ ((i0_.toInt64) + (i1_.toInt64)), .second, lvJ ((i2_.toInt64) + (i3_.toInt64)), .second, lvI (1 : Int32), lvJ (2 : Int64), .second, lvR b27, lvR b37, lvR b53, lvR nb2_264, lvR nb15_264, lvR nb121_264, lvJ (hi_.toInt64), .second, lvD l1_, .second, lvD l2_, .second, lvD pd1, .second, lvI hd, lvD pd2, .second, lvD l3_, .second, lvD l4_, .second, lvD l5_, .second] [(.ref nb15_264)])) rfl (by rw [hml]; rfl) (Steps.refl _) (argsL := []) (rest := []) (lenOf pd_18 rfl) rfl (by show 2 * 0 + _ ≤ _; exact Nat.le_of_eq rfl) (hb hby at_341) (fun _ _ => ⟨rfl, e320', (by decide : 15 + 0 ≤ _), (by decide : 56 + 0 ≤ _)⟩)
        dsimp only [Pt.U, Pt.locs, Pt.cells, Pt.slots] at X323 l323 y323 z323 st323 hQ323
        subst l323 y323 z323
        obtain ⟨h323, e323⟩ : ∃ z, T323.heap = z := ⟨_, rfl⟩
        rw [e323] at hQ323
        obtain ⟨rfl, N323q, hh323⟩ := hQ323
        have N324 := Fr.app N321 N323q
        have e323' : T323.heap = h264 := e323.trans hh323
        have hn325 : (cmpValue (FP.dcmp (FP.ddiv (FP.dadd (FP.dadd (0 : UInt64) qh0) qh0) (FP.i2d (((0 : Int32) + (1 : Int32)) + (1 : Int32)))) l2_) .l) = (0 : Int32) := by rw [el2, ← eqh0]; exact own_rr2 (own_z2 _) (by rw [Int64.zero_add]) (own_rh HM).1
        obtain ⟨cq326, kq326, q326a, q326b, q326c⟩ := isOf hZ e323' g264_4
        obtain ⟨_, _, ⟨T326, L326, k326, n326⟩, -, X326, ⟨Lc326, hQ326, l326, y326, z326⟩, st326⟩ := X323.virtualBack hx (y := (⟨"com/example/shortlist/shortlist/SelectionMeasures$Row", "p", "()D"⟩ : MethodName)) (z := (⟨"com/example/shortlist/shortlist/SelectionMeasures$Row", "p", "()D"⟩ : MethodName)) hown (mvT hZ (own_w hw 195 rfl)) (mvT hZ (own_w hw 196 rfl)) (notFace_of_selects (args := #[]) (mvT hZ (own_w hw 198 rfl))) (mvT hZ (own_w hw 198 rfl)) (mvT hZ (own_w hw 197 rfl)) (by decide) (backOf (W := 0) (rmRowp l Z a0 hw [] nb15_264 (FP.ddiv (FP.dadd (FP.dadd (0 : UInt64) qp0) qp0) (FP.i2d (((0 : Int32) + (1 : Int32)) + (1 : Int32)))) h264 n0 f279 g264_8) hZ (own_w hw 199 rfl) (own_w hw 93 rfl) (by decide) (by decide)) q326a q326c (g := (mkF m 352 #[lvI p0_, lvI p1_, lvI p2_, lvI p3_, lvI p4_, lvI i0_, lvI i1_, lvI i2_, lvI i3_, lvJ ((i0_.toInt64) + (i1_.toInt64)), .second, lvJ ((i2_.toInt64) + (i3_.toInt64)), .second, lvI (1 : Int32), lvJ (2 : Int64), .second, lvR b27, lvR b37, lvR b53, lvR nb2_264, lvR nb15_264, lvR nb121_264, lvJ (hi_.toInt64), .second, lvD l1_, .second, lvD l2_, .second, lvD pd1, .second, lvI hd, lvD pd2, .second, lvD l3_, .second, lvD l4_, .second, lvD l5_, .second] [(.ref nb15_264)])) rfl (by rw [hml]; rfl) (Steps.refl _) (argsL := []) (rest := []) (lenOf pd_18 rfl) rfl (by show 2 * 0 + _ ≤ _; exact Nat.le_of_eq rfl) (hb hby at_352) (fun _ _ => ⟨rfl, e323', (by decide : 15 + 0 ≤ _), (by decide : 56 + 0 ≤ _)⟩)
        dsimp only [Pt.U, Pt.locs, Pt.cells, Pt.slots] at X326 l326 y326 z326 st326 hQ326
        subst l326 y326 z326
        obtain ⟨h326, e326⟩ : ∃ z, T326.heap = z := ⟨_, rfl⟩
        rw [e326] at hQ326
        obtain ⟨rfl, N326q, hh326⟩ := hQ326
        have N327 := Fr.app N324 N326q
        have e326' : T326.heap = h264 := e326.trans hh326
        have hn328 : (cmpValue (FP.dcmp (FP.ddiv (FP.dadd (FP.dadd (0 : UInt64) qp0) qp0) (FP.i2d (((0 : Int32) + (1 : Int32)) + (1 : Int32)))) pd1) .l) = (0 : Int32) := by rw [← eqp0]; exact own_pc2 hp0 hd1
        obtain ⟨cq329, kq329, q329a, q329b, q329c⟩ := isOf hZ e326' g264_4
        obtain ⟨_, _, ⟨T329, L329, k329, n329⟩, -, X329, ⟨Lc329, hQ329, l329, y329, z329⟩, st329⟩ := X326.virtualBack hx (y := (⟨"com/example/shortlist/shortlist/SelectionMeasures$Row", "cp", "()D"⟩ : MethodName)) (z := (⟨"com/example/shortlist/shortlist/SelectionMeasures$Row", "cp", "()D"⟩ : MethodName)) hown (mvT hZ (own_w hw 200 rfl)) (mvT hZ (own_w hw 201 rfl)) (notFace_of_selects (args := #[]) (mvT hZ (own_w hw 203 rfl))) (mvT hZ (own_w hw 203 rfl)) (mvT hZ (own_w hw 202 rfl)) (by decide) (backOf (W := 0) (rmRowcp l Z a0 hw [] nb15_264 (FP.ddiv (FP.dadd (FP.dadd (0 : UInt64) qc0) qc0) (FP.i2d (((0 : Int32) + (1 : Int32)) + (1 : Int32)))) h264 n0 f279 g264_11) hZ (own_w hw 204 rfl) (own_w hw 93 rfl) (by decide) (by decide)) q329a q329c (g := (mkF m 363 #[lvI p0_, lvI p1_, lvI p2_, lvI p3_, lvI p4_, lvI i0_, lvI i1_, lvI i2_, lvI i3_, lvJ ((i0_.toInt64) + (i1_.toInt64)), .second, lvJ ((i2_.toInt64) + (i3_.toInt64)), .second, lvI (1 : Int32), lvJ (2 : Int64), .second, lvR b27, lvR b37, lvR b53, lvR nb2_264, lvR nb15_264, lvR nb121_264, lvJ (hi_.toInt64), .second, lvD l1_, .second, lvD l2_, .second, lvD pd1, .second, lvI hd, lvD pd2, .second, lvD l3_, .second, lvD l4_, .second, lvD l5_, .second] [(.ref nb15_264)])) rfl (by rw [hml]; rfl) (Steps.refl _) (argsL := []) (rest := []) (lenOf pd_18 rfl) rfl (by show 2 * 0 + _ ≤ _; exact Nat.le_of_eq rfl) (hb hby at_363) (fun _ _ => ⟨rfl, e326', (by decide : 15 + 0 ≤ _), (by decide : 56 + 0 ≤ _)⟩)
        dsimp only [Pt.U, Pt.locs, Pt.cells, Pt.slots] at X329 l329 y329 z329 st329 hQ329
        subst l329 y329 z329
        obtain ⟨h329, e329⟩ : ∃ z, T329.heap = z := ⟨_, rfl⟩
        rw [e329] at hQ329
        obtain ⟨rfl, N329q, hh329⟩ := hQ329
        have N330 := Fr.app N327 N329q
        have e329' : T329.heap = h264 := e329.trans hh329
        have hn331 : (cmpValue (FP.dcmp (FP.ddiv (FP.dadd (FP.dadd (0 : UInt64) qc0) qc0) (FP.i2d (((0 : Int32) + (1 : Int32)) + (1 : Int32)))) l3_) .l) = (0 : Int32) := by rw [el3, ← eqc0]; exact own_rr2 (own_z2 _) (by rw [Int64.zero_add]) (own_cp HM).1
        obtain ⟨cq332, kq332, q332a, q332b, q332c⟩ := isOf hZ e329' g264_4
        obtain ⟨_, _, ⟨T332, L332, k332, n332⟩, -, X332, ⟨Lc332, hQ332, l332, y332, z332⟩, st332⟩ := X329.virtualBack hx (y := mn7) (z := mn7) hown (mvT hZ (own_w hw 205 rfl)) (mvT hZ (own_w hw 206 rfl)) (notFace_of_selects (args := #[]) (mvT hZ (own_w hw 208 rfl))) (mvT hZ (own_w hw 208 rfl)) (mvT hZ (own_w hw 207 rfl)) (by decide) (backOf (W := 0) (rmRowaccuracy l Z a0 hw [] nb15_264 (FP.ddiv (FP.l2d (((0 : Int64) + ((0 : Int64) + (i0_.toInt64))) + ((0 : Int64) + (i0_.toInt64)))) (FP.l2d (((0 : Int64) + ((0 : Int64) + (hi_.toInt64))) + ((0 : Int64) + (hi_.toInt64))))) h264 n0 f279 g264_9) hZ (own_w hw 209 rfl) (own_w hw 93 rfl) (by decide) (by decide)) q332a q332c (g := (mkF m 374 #[lvI p0_, lvI p1_, lvI p2_, lvI p3_, lvI p4_, lvI i0_, lvI i1_, lvI i2_, lvI i3_, lvJ ((i0_.toInt64) + (i1_.toInt64)), .second, lvJ ((i2_.toInt64) + (i3_.toInt64)), .second, lvI (1 : Int32), lvJ (2 : Int64), .second, lvR b27, lvR b37, lvR b53, lvR nb2_264, lvR nb15_264, lvR nb121_264, lvJ (hi_.toInt64), .second, lvD l1_, .second, lvD l2_, .second, lvD pd1, .second, lvI hd, lvD pd2, .second, lvD l3_, .second, lvD l4_, .second, lvD l5_, .second] [(.ref nb15_264)])) rfl (by rw [hml]; rfl) (Steps.refl _) (argsL := []) (rest := []) (lenOf pd_18 rfl) rfl (by show 2 * 0 + _ ≤ _; exact Nat.le_of_eq rfl) (hb hby at_374) (fun _ _ => ⟨rfl, e329', (by decide : 15 + 0 ≤ _), (by decide : 56 + 0 ≤ _)⟩)
        dsimp only [Pt.U, Pt.locs, Pt.cells, Pt.slots] at X332 l332 y332 z332 st332 hQ332
        subst l332 y332 z332
        obtain ⟨h332, e332⟩ : ∃ z, T332.heap = z := ⟨_, rfl⟩
        rw [e332] at hQ332
        obtain ⟨rfl, N332q, hh332⟩ := hQ332
        have N333 := Fr.app N330 N332q
        have e332' : T332.heap = h264 := e332.trans hh332
        have hn334 : (cmpValue (FP.dcmp (FP.ddiv (FP.l2d (((0 : Int64) + ((0 : Int64) + (i0_.toInt64))) + ((0 : Int64) + (i0_.toInt64)))) (FP.l2d (((0 : Int64) + ((0 : Int64) + (hi_.toInt64))) + ((0 : Int64) + (hi_.toInt64))))) l4_) .l) = (0 : Int32) := by rw [el4]; exact own_acc (by simp only [Int64.zero_add, Int64.one_mul, Int64.two_mul]) (by simp only [Int64.zero_add, Int64.one_mul, Int64.two_mul]) (own_ns2 (own_h1 HM hS).1)
        obtain ⟨cq335, kq335, q335a, q335b, q335c⟩ := isOf hZ e332' g264_4
        obtain ⟨_, _, ⟨T335, L335, k335, n335⟩, -, X335, ⟨Lc335, hQ335, l335, y335, z335⟩, st335⟩ := X332.virtualBack hx (y := mn8) (z := mn8) hown (mvT hZ (own_w hw 210 rfl)) (mvT hZ (own_w hw 211 rfl)) (notFace_of_selects (args := #[]) (mvT hZ (own_w hw 213 rfl))) (mvT hZ (own_w hw 213 rfl)) (mvT hZ (own_w hw 212 rfl)) (by decide) (backOf (W := 0) (rmRowshare l Z a0 hw [] nb15_264 (FP.ddiv (FP.l2d (((0 : Int64) + ((0 : Int64) + (i0_.toInt64))) + ((0 : Int64) + (i0_.toInt64)))) (FP.l2d (((0 : Int64) + (((0 : Int64) + (i0_.toInt64)) + (i1_.toInt64))) + (((0 : Int64) + (i0_.toInt64)) + (i1_.toInt64))))) h264 n0 f279 g264_10) hZ (own_w hw 214 rfl) (own_w hw 93 rfl) (by decide) (by decide)) q335a q335c (g := (mkF m 385 #[lvI p0_, lvI p1_, lvI p2_, lvI p3_, lvI p4_, lvI i0_, lvI i1_, lvI i2_, lvI i3_, lvJ ((i0_.toInt64) + (i1_.toInt64)), .second, lvJ ((i2_.toInt64) + (i3_.toInt64)), .second, lvI (1 : Int32), lvJ (2 : Int64), .second, lvR b27, lvR b37, lvR b53, lvR nb2_264, lvR nb15_264, lvR nb121_264, lvJ (hi_.toInt64), .second, lvD l1_, .second, lvD l2_, .second, lvD pd1, .second, lvI hd, lvD pd2, .second, lvD l3_, .second, lvD l4_, .second, lvD l5_, .second] [(.ref nb15_264)])) rfl (by rw [hml]; rfl) (Steps.refl _) (argsL := []) (rest := []) (lenOf pd_18 rfl) rfl (by show 2 * 0 + _ ≤ _; exact Nat.le_of_eq rfl) (hb hby at_385) (fun _ _ => ⟨rfl, e332', (by decide : 15 + 0 ≤ _), (by decide : 56 + 0 ≤ _)⟩)
        dsimp only [Pt.U, Pt.locs, Pt.cells, Pt.slots] at X335 l335 y335 z335 st335 hQ335
        subst l335 y335 z335
        obtain ⟨h335, e335⟩ : ∃ z, T335.heap = z := ⟨_, rfl⟩
        rw [e335] at hQ335
        obtain ⟨rfl, N335q, hh335⟩ := hQ335
        have N336 := Fr.app N333 N335q
        have e335' : T335.heap = h264 := e335.trans hh335
        have hn337 : (cmpValue (FP.dcmp (FP.ddiv (FP.l2d (((0 : Int64) + ((0 : Int64) + (i0_.toInt64))) + ((0 : Int64) + (i0_.toInt64)))) (FP.l2d (((0 : Int64) + (((0 : Int64) + (i0_.toInt64)) + (i1_.toInt64))) + (((0 : Int64) + (i0_.toInt64)) + (i1_.toInt64))))) l5_) .l) = (0 : Int32) := by rw [el5]; exact own_acc (by simp only [Int64.zero_add, Int64.one_mul, Int64.two_mul]) (by simp only [Int64.zero_add, Int64.one_mul, Int64.two_mul]) (own_ns2 (own_rh HM).1)
        obtain ⟨cq338, kq338, q338a, q338b, q338c⟩ := isOf hZ e335' g264_14
        obtain ⟨_, _, ⟨T338, L338, k338, n338⟩, -, X338, ⟨Lc338, hQ338, l338, y338, z338⟩, st338⟩ := X335.virtualBack hx (y := (⟨"com/example/shortlist/shortlist/SelectionMeasures$Row", "p", "()D"⟩ : MethodName)) (z := (⟨"com/example/shortlist/shortlist/SelectionMeasures$Row", "p", "()D"⟩ : MethodName)) hown (mvT hZ (own_w hw 195 rfl)) (mvT hZ (own_w hw 196 rfl)) (notFace_of_selects (args := #[]) (mvT hZ (own_w hw 198 rfl))) (mvT hZ (own_w hw 198 rfl)) (mvT hZ (own_w hw 197 rfl)) (by decide) (backOf (W := 0) (rmRowp l Z a0 hw [] nb121_264 (FP.ddiv (FP.dadd (FP.dadd (0 : UInt64) qp1) qp1) (FP.i2d (((0 : Int32) + (1 : Int32)) + (1 : Int32)))) h264 n0 f279 g264_18) hZ (own_w hw 199 rfl) (own_w hw 93 rfl) (by decide) (by decide)) q338a q338c (g := (mkF m 396 #[lvI p0_, lvI p1_, lvI p2_, lvI p3_, lvI p4_, lvI i0_, lvI i1_, lvI i2_, lvI i3_, lvJ ((i0_.toInt64) + (i1_.toInt64)), .second, lvJ ((i2_.toInt64) + (i3_.toInt64)), .second, lvI (1 : Int32), lvJ (2 : Int64), .second, lvR b27, lvR b37, lvR b53, lvR nb2_264, lvR nb15_264, lvR nb121_264, lvJ (hi_.toInt64), .second, lvD l1_, .second, lvD l2_, .second, lvD pd1, .second, lvI hd, lvD pd2, .second, lvD l3_, .second, lvD l4_, .second, lvD l5_, .second] [(.ref nb121_264)])) rfl (by rw [hml]; rfl) (Steps.refl _) (argsL := []) (rest := []) (lenOf pd_18 rfl) rfl (by show 2 * 0 + _ ≤ _; exact Nat.le_of_eq rfl) (hb hby at_396) (fun _ _ => ⟨rfl, e335', (by decide : 15 + 0 ≤ _), (by decide : 56 + 0 ≤ _)⟩)
        dsimp only [Pt.U, Pt.locs, Pt.cells, Pt.slots] at X338 l338 y338 z338 st338 hQ338
        subst l338 y338 z338
        obtain ⟨h338, e338⟩ : ∃ z, T338.heap = z := ⟨_, rfl⟩
        rw [e338] at hQ338
        obtain ⟨rfl, N338q, hh338⟩ := hQ338
        have N339 := Fr.app N336 N338q
        have e338' : T338.heap = h264 := e338.trans hh338
        have hn340 : (cmpValue (FP.dcmp (FP.ddiv (FP.dadd (FP.dadd (0 : UInt64) qp1) qp1) (FP.i2d (((0 : Int32) + (1 : Int32)) + (1 : Int32)))) pd2) .l) = (0 : Int32) := by rw [← eqp1]; exact own_pq2 hp0 hp1 hd2
        have pre341 : ∀ t, own_S p e below m T338 410 #[lvI p0_, lvI p1_, lvI p2_, lvI p3_, lvI p4_, lvI i0_, lvI i1_, lvI i2_, lvI i3_, lvJ ((i0_.toInt64) + (i1_.toInt64)), .second, lvJ ((i2_.toInt64) + (i3_.toInt64)), .second, lvI (1 : Int32), lvJ (2 : Int64), .second, lvR b27, lvR b37, lvR b53, lvR nb2_264, lvR nb15_264, lvR nb121_264, lvJ (hi_.toInt64), .second, lvD l1_, .second, lvD l2_, .second, lvD pd1, .second, lvI hd, lvD pd2, .second, lvD l3_, .second, lvD l4_, .second, lvD l5_, .second] [(.int (1 : Int32))] t → G t := by
          intro t kt
          refine pre319 t ?_
          show own_S p e below m T287 326 #[lvI p0_, lvI p1_, lvI p2_, lvI p3_, lvI p4_, lvI i0_, lvI i1_, lvI i2_, lvI i3_, lvJ ((i0_.toInt64) + (i1_.toInt64)), .second, lvJ ((i2_.toInt64) + (i3_.toInt64)), .second, lvI (1 : Int32), lvJ (2 : Int64), .second, lvR b27, lvR b37, lvR b53, lvR nb2_264, lvR nb15_264, lvR nb121_264, lvJ (hi_.toInt64), .second, lvD l1_, .second, lvD l2_, .second, lvD pd1, .second, lvI hd, lvD pd2, .second, lvD l3_, .second, lvD l4_, .second, .unset, .unset] [(.double l5_)] _
          refine XS.dstore X287.here hx rfl (hb hby at_326) rfl (l' := #[lvI p0_, lvI p1_, lvI p2_, lvI p3_, lvI p4_, lvI i0_, lvI i1_, lvI i2_, lvI i3_, lvJ ((i0_.toInt64) + (i1_.toInt64)), .second, lvJ ((i2_.toInt64) + (i3_.toInt64)), .second, lvI (1 : Int32), lvJ (2 : Int64), .second, lvR b27, lvR b37, lvR b53, lvR nb2_264, lvR nb15_264, lvR nb121_264, lvJ (hi_.toInt64), .second, lvD l1_, .second, lvD l2_, .second, lvD pd1, .second, lvI hd, lvD pd2, .second, lvD l3_, .second, lvD l4_, .second, lvD l5_, .second]) rfl ?_
          refine XS.aload X287.here hx rfl (hb hby at_328) rfl rfl ?_
          show own_S p e below m T287 330 #[lvI p0_, lvI p1_, lvI p2_, lvI p3_, lvI p4_, lvI i0_, lvI i1_, lvI i2_, lvI i3_, lvJ ((i0_.toInt64) + (i1_.toInt64)), .second, lvJ ((i2_.toInt64) + (i3_.toInt64)), .second, lvI (1 : Int32), lvJ (2 : Int64), .second, lvR b27, lvR b37, lvR b53, lvR nb2_264, lvR nb15_264, lvR nb121_264, lvJ (hi_.toInt64), .second, lvD l1_, .second, lvD l2_, .second, lvD pd1, .second, lvI hd, lvD pd2, .second, lvD l3_, .second, lvD l4_, .second, lvD l5_, .second] [(.ref nb15_264)] _
          refine st320.trans ?_
          refine XS.dload X320.here hx rfl (hb hby at_333) rfl ?_
          refine XS.dcmpS X320.here hx rfl (hb hby at_335) rfl rfl ?_
          show own_S p e below m T320 336 #[lvI p0_, lvI p1_, lvI p2_, lvI p3_, lvI p4_, lvI i0_, lvI i1_, lvI i2_, lvI i3_, lvJ ((i0_.toInt64) + (i1_.toInt64)), .second, lvJ ((i2_.toInt64) + (i3_.toInt64)), .second, lvI (1 : Int32), lvJ (2 : Int64), .second, lvR b27, lvR b37, lvR b53, lvR nb2_264, lvR nb15_264, lvR nb121_264, lvJ (hi_.toInt64), .second, lvD l1_, .second, lvD l2_, .second, lvD pd1, .second, lvI hd, lvD pd2, .second, lvD l3_, .second, lvD l4_, .second, lvD l5_, .second] [(.int (cmpValue (FP.dcmp (FP.ddiv (FP.dadd (FP.dadd (0 : UInt64) qr0) qr0) (FP.i2d (((0 : Int32) + (1 : Int32)) + (1 : Int32)))) l1_) .l))] _
          refine XS.ifNo X320.here hx rfl (hb hby at_336) rfl ((if0 _ _).trans (teq hn322).2) ?_
          refine XS.aload X320.here hx rfl (hb hby at_339) rfl rfl ?_
          show own_S p e below m T320 341 #[lvI p0_, lvI p1_, lvI p2_, lvI p3_, lvI p4_, lvI i0_, lvI i1_, lvI i2_, lvI i3_, lvJ ((i0_.toInt64) + (i1_.toInt64)), .second, lvJ ((i2_.toInt64) + (i3_.toInt64)), .second, lvI (1 : Int32), lvJ (2 : Int64), .second, lvR b27, lvR b37, lvR b53, lvR nb2_264, lvR nb15_264, lvR nb121_264, lvJ (hi_.toInt64), .second, lvD l1_, .second, lvD l2_, .second, lvD pd1, .second, lvI hd, lvD pd2, .second, lvD l3_, .second, lvD l4_, .second, lvD l5_, .second] [(.ref nb15_264)] _
          refine st323.trans ?_
          refine XS.dload X323.here hx rfl (hb hby at_344) rfl ?_
          refine XS.dcmpS X323.here hx rfl (hb hby at_346) rfl rfl ?_
          show own_S p e below m T323 347 #[lvI p0_, lvI p1_, lvI p2_, lvI p3_, lvI p4_, lvI i0_, lvI i1_, lvI i2_, lvI i3_, lvJ ((i0_.toInt64) + (i1_.toInt64)), .second, lvJ ((i2_.toInt64) + (i3_.toInt64)), .second, lvI (1 : Int32), lvJ (2 : Int64), .second, lvR b27, lvR b37, lvR b53, lvR nb2_264, lvR nb15_264, lvR nb121_264, lvJ (hi_.toInt64), .second, lvD l1_, .second, lvD l2_, .second, lvD pd1, .second, lvI hd, lvD pd2, .second, lvD l3_, .second, lvD l4_, .second, lvD l5_, .second] [(.int (cmpValue (FP.dcmp (FP.ddiv (FP.dadd (FP.dadd (0 : UInt64) qh0) qh0) (FP.i2d (((0 : Int32) + (1 : Int32)) + (1 : Int32)))) l2_) .l))] _
          refine XS.ifNo X323.here hx rfl (hb hby at_347) rfl ((if0 _ _).trans (teq hn325).2) ?_
          refine XS.aload X323.here hx rfl (hb hby at_350) rfl rfl ?_
          show own_S p e below m T323 352 #[lvI p0_, lvI p1_, lvI p2_, lvI p3_, lvI p4_, lvI i0_, lvI i1_, lvI i2_, lvI i3_, lvJ ((i0_.toInt64) + (i1_.toInt64)), .second, lvJ ((i2_.toInt64) + (i3_.toInt64)), .second, lvI (1 : Int32), lvJ (2 : Int64), .second, lvR b27, lvR b37, lvR b53, lvR nb2_264, lvR nb15_264, lvR nb121_264, lvJ (hi_.toInt64), .second, lvD l1_, .second, lvD l2_, .second, lvD pd1, .second, lvI hd, lvD pd2, .second, lvD l3_, .second, lvD l4_, .second, lvD l5_, .second] [(.ref nb15_264)] _
          refine st326.trans ?_
          refine XS.dload X326.here hx rfl (hb hby at_355) rfl ?_
          refine XS.dcmpS X326.here hx rfl (hb hby at_357) rfl rfl ?_
          show own_S p e below m T326 358 #[lvI p0_, lvI p1_, lvI p2_, lvI p3_, lvI p4_, lvI i0_, lvI i1_, lvI i2_, lvI i3_, lvJ ((i0_.toInt64) + (i1_.toInt64)), .second, lvJ ((i2_.toInt64) + (i3_.toInt64)), .second, lvI (1 : Int32), lvJ (2 : Int64), .second, lvR b27, lvR b37, lvR b53, lvR nb2_264, lvR nb15_264, lvR nb121_264, lvJ (hi_.toInt64), .second, lvD l1_, .second, lvD l2_, .second, lvD pd1, .second, lvI hd, lvD pd2, .second, lvD l3_, .second, lvD l4_, .second, lvD l5_, .second] [(.int (cmpValue (FP.dcmp (FP.ddiv (FP.dadd (FP.dadd (0 : UInt64) qp0) qp0) (FP.i2d (((0 : Int32) + (1 : Int32)) + (1 : Int32)))) pd1) .l))] _
          refine XS.ifNo X326.here hx rfl (hb hby at_358) rfl ((if0 _ _).trans (teq hn328).2) ?_
          refine XS.aload X326.here hx rfl (hb hby at_361) rfl rfl ?_
          show own_S p e below m T326 363 #[lvI p0_, lvI p1_, lvI p2_, lvI p3_, lvI p4_, lvI i0_, lvI i1_, lvI i2_, lvI i3_, lvJ ((i0_.toInt64) + (i1_.toInt64)), .second, lvJ ((i2_.toInt64) + (i3_.toInt64)), .second, lvI (1 : Int32), lvJ (2 : Int64), .second, lvR b27, lvR b37, lvR b53, lvR nb2_264, lvR nb15_264, lvR nb121_264, lvJ (hi_.toInt64), .second, lvD l1_, .second, lvD l2_, .second, lvD pd1, .second, lvI hd, lvD pd2, .second, lvD l3_, .second, lvD l4_, .second, lvD l5_, .second] [(.ref nb15_264)] _
          refine st329.trans ?_
          refine XS.dload X329.here hx rfl (hb hby at_366) rfl ?_
          refine XS.dcmpS X329.here hx rfl (hb hby at_368) rfl rfl ?_
          show own_S p e below m T329 369 #[lvI p0_, lvI p1_, lvI p2_, lvI p3_, lvI p4_, lvI i0_, lvI i1_, lvI i2_, lvI i3_, lvJ ((i0_.toInt64) + (i1_.toInt64)), .second, lvJ ((i2_.toInt64) + (i3_.toInt64)), .second, lvI (1 : Int32), lvJ (2 : Int64), .second, lvR b27, lvR b37, lvR b53, lvR nb2_264, lvR nb15_264, lvR nb121_264, lvJ (hi_.toInt64), .second, lvD l1_, .second, lvD l2_, .second, lvD pd1, .second, lvI hd, lvD pd2, .second, lvD l3_, .second, lvD l4_, .second, lvD l5_, .second] [(.int (cmpValue (FP.dcmp (FP.ddiv (FP.dadd (FP.dadd (0 : UInt64) qc0) qc0) (FP.i2d (((0 : Int32) + (1 : Int32)) + (1 : Int32)))) l3_) .l))] _
          refine XS.ifNo X329.here hx rfl (hb hby at_369) rfl ((if0 _ _).trans (teq hn331).2) ?_
          refine XS.aload X329.here hx rfl (hb hby at_372) rfl rfl ?_
          show own_S p e below m T329 374 #[lvI p0_, lvI p1_, lvI p2_, lvI p3_, lvI p4_, lvI i0_, lvI i1_, lvI i2_, lvI i3_, lvJ ((i0_.toInt64) + (i1_.toInt64)), .second, lvJ ((i2_.toInt64) + (i3_.toInt64)), .second, lvI (1 : Int32), lvJ (2 : Int64), .second, lvR b27, lvR b37, lvR b53, lvR nb2_264, lvR nb15_264, lvR nb121_264, lvJ (hi_.toInt64), .second, lvD l1_, .second, lvD l2_, .second, lvD pd1, .second, lvI hd, lvD pd2, .second, lvD l3_, .second, lvD l4_, .second, lvD l5_, .second] [(.ref nb15_264)] _
          refine st332.trans ?_
          refine XS.dload X332.here hx rfl (hb hby at_377) rfl ?_
          refine XS.dcmpS X332.here hx rfl (hb hby at_379) rfl rfl ?_
          show own_S p e below m T332 380 #[lvI p0_, lvI p1_, lvI p2_, lvI p3_, lvI p4_, lvI i0_, lvI i1_, lvI i2_, lvI i3_, lvJ ((i0_.toInt64) + (i1_.toInt64)), .second, lvJ ((i2_.toInt64) + (i3_.toInt64)), .second, lvI (1 : Int32), lvJ (2 : Int64), .second, lvR b27, lvR b37, lvR b53, lvR nb2_264, lvR nb15_264, lvR nb121_264, lvJ (hi_.toInt64), .second, lvD l1_, .second, lvD l2_, .second, lvD pd1, .second, lvI hd, lvD pd2, .second, lvD l3_, .second, lvD l4_, .second, lvD l5_, .second] [(.int (cmpValue (FP.dcmp (FP.ddiv (FP.l2d (((0 : Int64) + ((0 : Int64) + (i0_.toInt64))) + ((0 : Int64) + (i0_.toInt64)))) (FP.l2d (((0 : Int64) + ((0 : Int64) + (hi_.toInt64))) + ((0 : Int64) + (hi_.toInt64))))) l4_) .l))] _
          refine XS.ifNo X332.here hx rfl (hb hby at_380) rfl ((if0 _ _).trans (teq hn334).2) ?_
          refine XS.aload X332.here hx rfl (hb hby at_383) rfl rfl ?_
          show own_S p e below m T332 385 #[lvI p0_, lvI p1_, lvI p2_, lvI p3_, lvI p4_, lvI i0_, lvI i1_, lvI i2_, lvI i3_, lvJ ((i0_.toInt64) + (i1_.toInt64)), .second, lvJ ((i2_.toInt64) + (i3_.toInt64)), .second, lvI (1 : Int32), lvJ (2 : Int64), .second, lvR b27, lvR b37, lvR b53, lvR nb2_264, lvR nb15_264, lvR nb121_264, lvJ (hi_.toInt64), .second, lvD l1_, .second, lvD l2_, .second, lvD pd1, .second, lvI hd, lvD pd2, .second, lvD l3_, .second, lvD l4_, .second, lvD l5_, .second] [(.ref nb15_264)] _
          refine st335.trans ?_
          refine XS.dload X335.here hx rfl (hb hby at_388) rfl ?_
          refine XS.dcmpS X335.here hx rfl (hb hby at_390) rfl rfl ?_
          show own_S p e below m T335 391 #[lvI p0_, lvI p1_, lvI p2_, lvI p3_, lvI p4_, lvI i0_, lvI i1_, lvI i2_, lvI i3_, lvJ ((i0_.toInt64) + (i1_.toInt64)), .second, lvJ ((i2_.toInt64) + (i3_.toInt64)), .second, lvI (1 : Int32), lvJ (2 : Int64), .second, lvR b27, lvR b37, lvR b53, lvR nb2_264, lvR nb15_264, lvR nb121_264, lvJ (hi_.toInt64), .second, lvD l1_, .second, lvD l2_, .second, lvD pd1, .second, lvI hd, lvD pd2, .second, lvD l3_, .second, lvD l4_, .second, lvD l5_, .second] [(.int (cmpValue (FP.dcmp (FP.ddiv (FP.l2d (((0 : Int64) + ((0 : Int64) + (i0_.toInt64))) + ((0 : Int64) + (i0_.toInt64)))) (FP.l2d (((0 : Int64) + (((0 : Int64) + (i0_.toInt64)) + (i1_.toInt64))) + (((0 : Int64) + (i0_.toInt64)) + (i1_.toInt64))))) l5_) .l))] _
          refine XS.ifNo X335.here hx rfl (hb hby at_391) rfl ((if0 _ _).trans (teq hn337).2) ?_
          refine XS.aload X335.here hx rfl (hb hby at_394) rfl rfl ?_
          show own_S p e below m T335 396 #[lvI p0_, lvI p1_, lvI p2_, lvI p3_, lvI p4_, lvI i0_, lvI i1_, lvI i2_, lvI i3_, lvJ ((i0_.toInt64) + (i1_.toInt64)), .second, lvJ ((i2_.toInt64) + (i3_.toInt64)), .second, lvI (1 : Int32), lvJ (2 : Int64), .second, lvR b27, lvR b37, lvR b53, lvR nb2_264, lvR nb15_264, lvR nb121_264, lvJ (hi_.toInt64), .second, lvD l1_, .second, lvD l2_, .second, lvD pd1, .second, lvI hd, lvD pd2, .second, lvD l3_, .second, lvD l4_, .second, lvD l5_, .second] [(.ref nb121_264)] _
          refine st338.trans ?_
          refine XS.dload X338.here hx rfl (hb hby at_399) rfl ?_
          refine XS.dcmpS X338.here hx rfl (hb hby at_401) rfl rfl ?_
          show own_S p e below m T338 402 #[lvI p0_, lvI p1_, lvI p2_, lvI p3_, lvI p4_, lvI i0_, lvI i1_, lvI i2_, lvI i3_, lvJ ((i0_.toInt64) + (i1_.toInt64)), .second, lvJ ((i2_.toInt64) + (i3_.toInt64)), .second, lvI (1 : Int32), lvJ (2 : Int64), .second, lvR b27, lvR b37, lvR b53, lvR nb2_264, lvR nb15_264, lvR nb121_264, lvJ (hi_.toInt64), .second, lvD l1_, .second, lvD l2_, .second, lvD pd1, .second, lvI hd, lvD pd2, .second, lvD l3_, .second, lvD l4_, .second, lvD l5_, .second] [(.int (cmpValue (FP.dcmp (FP.ddiv (FP.dadd (FP.dadd (0 : UInt64) qp1) qp1) (FP.i2d (((0 : Int32) + (1 : Int32)) + (1 : Int32)))) pd2) .l))] _
          refine XS.ifNo X338.here hx rfl (hb hby at_402) rfl ((if0 _ _).trans (teq hn340).2) ?_
          refine XS.iconst X338.here hx rfl (hb hby at_405) ?_
          refine XS.goto X338.here hx rfl (pc0 := 406) (pc' := 410) rfl (hb hby at_406) (by decide) (by decide) ?_
          exact kt
        obtain ⟨fs, hr, hrun, hended, hW, hsame⟩ := X338.leave (v := some (.int (1 : Int32))) (fun h => by rw [Bd.returns] at h; cases h)
        refine ⟨_, _, hG _ (pre341 _ (retN X338 hx (t := .boolean) Bd.returns (by simp) (hb hby at_410) hr)), hrun, hended, _, _, rfl, ?_, ⟨_, rfl⟩, hW, hsame.mono (by decide) (by decide)⟩
        show QLaw Z p0_ p1_ p2_ p3_ p4_ w_DEFAULTCAPACITY_EMPTY_ELEMENTDATA w_EMPTY_ELEMENTDATA k_w_EMPTY_ELEMENTDATA k_w_DEFAULTCAPACITY_EMPTY_ELEMENTDATA h0 n0 _ T338.heap _
        rw [e338']
        exact ⟨rfl, N339⟩
set_option maxRecDepth 65536 in
set_option maxHeartbeats 40000000 in
theorem comes_1 {Post : Tables → Env → Array Value → State → Outcome → State → Prop} (hpost : ∀ tb e args s v u, (limb_1_1.after args s (.returned v) u = true ∧ limb_1_2.after args s (.returned v) u = true ∧ True) → FrameEnd s (.returned v) u (Jvm.fieldLocs frame_1_writes args s ++ Jvm.arrayLocs frame_1_arrays args s ++ Jvm.staticLocs frame_1_statics s) 40 192 → Post tb e args s (.returned v) u) :
    ArmFor flags0 classFile x code maxLocals ret World_1 tables_1 room_1 Calls_1 rest_1 Pre_1 Post := by
  intro l hfl _ _ p e ha hc hk s m args below hf hA hF happ hP
  obtain ⟨hcalls, hrest, hpre⟩ := hP
  obtain ⟨-, -, -, hnamed, -, -, -, hat⟩ := (Spec.applies_iff hf).mp happ
  obtain ⟨hg, hn⟩ := and_e (Cond.before_iff.mp (show (Jvm.Cond.and given_1 narrow_1).before args s = true from hpre))
  obtain ⟨g1, g2⟩ := and_e hg
  obtain ⟨g3, g4⟩ := and_e g2
  obtain ⟨g5, g6⟩ := and_e g4
  obtain ⟨g7, g8⟩ := and_e g6
  obtain ⟨g9, g10⟩ := and_e g8
  obtain ⟨w0, w1, w2, w3, w4, rfl⟩ : ∃ w0 w1 w2 w3 w4 : Value, args = #[w0, w1, w2, w3, w4] := by
    have hs : args.size = 5 := by simpa [Cond.value, given_1] using g1
    obtain ⟨L⟩ := args
    match L, hs with
    | [w0, w1, w2, w3, w4], _ => exact ⟨w0, w1, w2, w3, w4, rfl⟩
  have hw := fun d (hd : d ∈ tables_1) => atoms_spec (ws := Jvm.Cond.code x code maxLocals ret :: tables_1) hat d (List.mem_cons_of_mem _ hd)
  have hfit : Fit s := fun {y c} hc i hi => by
    obtain ⟨ha, rfl⟩ := Array.getElem?_eq_some_iff.mp hc
    have q := List.all_eq_true.mp ((Array.all_eq_true_iff_forall_mem.mp hF) _ (Array.getElem_mem ha)) i (List.mem_range.mpr hi)
    simpa [Array.getElem?_eq_getElem hi] using q
  obtain ⟨i0, ei0⟩ := is_v g3
  obtain rfl : w0 = (.int i0) := Option.some.inj ei0
  obtain ⟨i1, ei1⟩ := is_v g5
  obtain rfl : w1 = (.int i1) := Option.some.inj ei1
  obtain ⟨i2, ei2⟩ := is_v g7
  obtain rfl : w2 = (.int i2) := Option.some.inj ei2
  obtain ⟨i3, ei3⟩ := is_v g9
  obtain rfl : w3 = (.int i3) := Option.some.inj ei3
  obtain ⟨i4, ei4⟩ := is_v g10
  obtain rfl : w4 = (.int i4) := Option.some.inj ei4
  have hr0 := Cond.before_iff.mp (show rest_1_c.before _ s = true from hrest)
  obtain ⟨g11, g12⟩ := and_e hr0
  obtain ⟨g13, g14⟩ := and_e g12
  obtain ⟨g15, g16⟩ := and_e g14
  obtain ⟨g17, g18⟩ := and_e g16
  obtain ⟨g19, g20⟩ := and_e g18
  obtain ⟨g21, g22⟩ := and_e g20
  obtain ⟨g23, g24⟩ := and_e g22
  obtain ⟨g25, g26⟩ := and_e g24
  obtain ⟨g27, g28⟩ := and_e g26
  obtain ⟨w_EMPTY_ELEMENTDATA, ev_w_EMPTY_ELEMENTDATA⟩ := arr_v g17
  have S_w_EMPTY_ELEMENTDATA := Sta.start ev_w_EMPTY_ELEMENTDATA (Or.inl (Cond.before_iff.mpr g13))
  obtain ⟨c_w_EMPTY_ELEMENTDATA, A_w_EMPTY_ELEMENTDATA⟩ := Arr.start ev_w_EMPTY_ELEMENTDATA g17
  have E_w_EMPTY_ELEMENTDATA := Exa.start ev_w_EMPTY_ELEMENTDATA g19
  obtain ⟨w_DEFAULTCAPACITY_EMPTY_ELEMENTDATA, ev_w_DEFAULTCAPACITY_EMPTY_ELEMENTDATA⟩ := arr_v g23
  have S_w_DEFAULTCAPACITY_EMPTY_ELEMENTDATA := Sta.start ev_w_DEFAULTCAPACITY_EMPTY_ELEMENTDATA (Or.inr ⟨(own_w hw 69 rfl), (Cond.before_iff.mpr g15)⟩)
  obtain ⟨c_w_DEFAULTCAPACITY_EMPTY_ELEMENTDATA, A_w_DEFAULTCAPACITY_EMPTY_ELEMENTDATA⟩ := Arr.start ev_w_DEFAULTCAPACITY_EMPTY_ELEMENTDATA g23
  have E_w_DEFAULTCAPACITY_EMPTY_ELEMENTDATA := Exa.start ev_w_DEFAULTCAPACITY_EMPTY_ELEMENTDATA g25
  have Ln_w_EMPTY_ELEMENTDATA := own_len g21 ev_w_EMPTY_ELEMENTDATA A_w_EMPTY_ELEMENTDATA
  have Ln_w_DEFAULTCAPACITY_EMPTY_ELEMENTDATA := own_len g27 ev_w_DEFAULTCAPACITY_EMPTY_ELEMENTDATA A_w_DEFAULTCAPACITY_EMPTY_ELEMENTDATA
  have V_w_EMPTY_ELEMENTDATA : Arv s s.heap w_EMPTY_ELEMENTDATA c_w_EMPTY_ELEMENTDATA.cls (.object "java/lang/Object") (0 : Int32) [] .null := Arv.start hfit A_w_EMPTY_ELEMENTDATA Ln_w_EMPTY_ELEMENTDATA.1 Ln_w_EMPTY_ELEMENTDATA.2 (by decide) rfl trivial
  have V_w_DEFAULTCAPACITY_EMPTY_ELEMENTDATA : Arv s s.heap w_DEFAULTCAPACITY_EMPTY_ELEMENTDATA c_w_DEFAULTCAPACITY_EMPTY_ELEMENTDATA.cls (.object "java/lang/Object") (0 : Int32) [] .null := Arv.start hfit A_w_DEFAULTCAPACITY_EMPTY_ELEMENTDATA Ln_w_DEFAULTCAPACITY_EMPTY_ELEMENTDATA.1 Ln_w_DEFAULTCAPACITY_EMPTY_ELEMENTDATA.2 (by decide) rfl trivial
  obtain ⟨n, o, h1, h2, h3, _, L, rfl, ⟨rfl, N⟩, hq⟩ := rmLaw l s _ hw tables_1 i0 i1 i2 i3 i4 w_DEFAULTCAPACITY_EMPTY_ELEMENTDATA w_EMPTY_ELEMENTDATA c_w_EMPTY_ELEMENTDATA.cls c_w_DEFAULTCAPACITY_EMPTY_ELEMENTDATA.cls s.heap s.heap.size (Old.start s) S_w_EMPTY_ELEMENTDATA E_w_EMPTY_ELEMENTDATA S_w_DEFAULTCAPACITY_EMPTY_ELEMENTDATA E_w_DEFAULTCAPACITY_EMPTY_ELEMENTDATA V_w_EMPTY_ELEMENTDATA V_w_DEFAULTCAPACITY_EMPTY_ELEMENTDATA p e ha hc hk s m _ below hf ((Spec.applies_iff_loose hf).mp happ).1 ⟨rfl, State.Warmed39.refl s, rfl⟩ trivial
  refine ⟨n, _, h1, h2, h3, hpost _ _ _ _ _ _ ⟨Cond.after_iff.mpr rfl, Cond.after_iff.mpr (eq_i res_at (Term.int_eval (1)) rfl), trivial⟩ ⟨hq.1, hq.2.1, (hq.2.2.sift fun y hy => Or.inr (N y hy)).mono (by decide) (by decide)⟩⟩
theorem main_1_1 : Claimed_1_1 := comes_1 fun _ _ _ _ _ _ h hF => ⟨h.1, hF⟩
theorem main_1_2 : Claimed_1_2 := comes_1 fun _ _ _ _ _ _ h hF => ⟨h.2.1, hF⟩
end Jvm.Pilot.@@N@@
namespace Jvm.Pilot.@@N@@
open Jvm Jvm.ClassFile Sem Op Lib Jvm.Free Jvm.Stand Jvm.Pilot.@@N@@.Jvm.D
/-! MADE BY PROGRAM (witnessworld.py) out of the Statement's table words and the real class files: 29 classes; the members and pool entries that the words name. The judged class is class 1, her method 1. -/
namespace start1
open Jvm.ClassFile
def u (s : String) : CpInfo := .utf8 (stringToUtf16 s)
/-- a pool by its gaps: so many unusable entries, then the entry; so many at the end -/
def gap : Nat → List CpInfo → List CpInfo
  | 0, r => r
  | n + 1, r => .unusable :: gap n r
def poolList (es : List (Nat × CpInfo)) (last : Nat) : List CpInfo := es.foldr (fun e r => gap e.1 (e.2 :: r)) (gap last [])
def pool (es : List (Nat × CpInfo)) (last : Nat) : Array CpInfo := ⟨poolList es last⟩
def fileOf (pool : Array CpInfo) (this : Nat) (attrs : Array Attribute := #[]) (ms : Array MethodInfo := #[]) (fl : Nat := 33) (sup : Nat := 0) (ifs : Array Nat := #[]) (fds : Array FieldInfo := #[]) : ClassFile where
  minorVersion := 0
  majorVersion := 65
  constantPool := pool
  accessFlags := fl
  thisClass := this
  superClass := sup
  interfaces := ifs
  fields := fds
  methods := ms
  attributes := attrs
def plain (name : String) (sup : Option ClassId) : Class where
  name := name
  kind := .ordinary
  loader := none
  accessFlags := 33
  super := sup
  interfaces := #[]
  cf := none
  fields := #[]
  methods := #[]
  instanceTypes := #[]
  staticTypes := #[]
  resolved := #[]
  callSites := []
  init := .initialized
  statics := none
  mirror := none

def pool0 : Array CpInfo := pool [(5, u "<init>"), (0, u "()V"), (1, .class_ 10), (1, u "java/lang/Object"), (85, u "clone"), (0, u "()Ljava/lang/Object;")] 26

def k0c0 : Code := { maxStack := 0, maxLocals := 1, code := object_method_1_code, exceptionTable := #[], attributes := #[] }
def k0m0 : Method := { name := "<init>", desc := "()V", sig := { parameters := [], returnType := none }, accessFlags := 1, code := some k0c0 }
def k0m1 : Method := { name := "clone", desc := "()Ljava/lang/Object;", sig := { parameters := [], returnType := some (.object "java/lang/Object") }, accessFlags := 260, code := none }
/-- java/lang/Object -/
def k0 : Class := { plain "java/lang/Object" none with
  accessFlags := 33
  interfaces := #[]
  cf := some (fileOf pool0 8 #[] #[{ accessFlags := 1, nameIndex := 5, descriptorIndex := 6, attributes := #[] }, { accessFlags := 260, nameIndex := 96, descriptorIndex := 97, attributes := #[] }] 33 0 #[] #[])
  fields := #[]
  methods := #[k0m0, k0m1]
  instanceTypes := #[]
  staticTypes := #[]
  resolved := Array.replicate 124 none
  statics := none }

def pool1 : Array CpInfo := pool [(2, .class_ 4), (1, u "java/lang/Object"), (0, u "<init>"), (0, u "()V"), (0, .integer 2147483647), (0, .long 2), (1, .class_ 11), (0, u "com/example/shortlist/shortlist/SelectionMeasures"), (0, .methodref 10 13), (0, .nameAndType 5 14), (0, u "(I)V"), (0, .methodref 10 16), (0, .nameAndType 17 18), (0, u "add"), (0, u "([I[I)V"), (0, .methodref 10 20), (0, .nameAndType 21 22), (0, u "rows"), (0, u "()Ljava/util/List;"), (0, .interfaceMethodref 24 25), (0, .class_ 26), (0, .nameAndType 27 28), (0, u "java/util/List"), (0, u "size"), (0, u "()I"), (0, .interfaceMethodref 24 30), (0, .nameAndType 31 32), (0, u "get"), (0, u "(I)Ljava/lang/Object;"), (0, .class_ 34), (0, u "com/example/shortlist/shortlist/SelectionMeasures$Row"), (0, .methodref 36 37), (0, .class_ 38), (0, .nameAndType 39 40), (0, u "java/lang/Math"), (0, u "max"), (0, u "(II)I"), (0, .double 4602678819172646912), (1, .methodref 33 44), (0, .nameAndType 45 46), (0, u "r"), (0, u "()D"), (0, .methodref 33 48), (0, .nameAndType 49 46), (0, u "rHat"), (0, .methodref 33 51), (0, .nameAndType 52 46), (0, u "p"), (0, .methodref 33 54), (0, .nameAndType 55 46), (0, u "cp"), (0, .methodref 33 57), (0, .nameAndType 58 46), (0, u "accuracy"), (0, .methodref 33 60), (0, .nameAndType 61 46), (0, u "share"), (0, .class_ 63), (0, u "com/example/shortlist/shortlist/SelectionMeasuresAddPinLaw"), (2, u "law"), (0, u "(IIIII)Z")] 7

def k1m0 : Method := { name := "<init>", desc := "()V", sig := { parameters := [], returnType := none }, accessFlags := 1, code := none }
def k1c1 : Code := { maxStack := 6, maxLocals := 39, code := code, exceptionTable := #[], attributes := #[] }
def k1m1 : Method := { name := "law", desc := "(IIIII)Z", sig := { parameters := [.int, .int, .int, .int, .int], returnType := some .boolean }, accessFlags := 9, code := some k1c1 }
/-- com/example/shortlist/shortlist/SelectionMeasuresAddPinLaw -/
def k1 : Class := { plain "com/example/shortlist/shortlist/SelectionMeasuresAddPinLaw" (some 0) with
  accessFlags := 49
  interfaces := #[]
  cf := some (fileOf pool1 62 #[] #[{ accessFlags := 1, nameIndex := 5, descriptorIndex := 6, attributes := #[] }, { accessFlags := 9, nameIndex := 66, descriptorIndex := 67, attributes := #[] }] 49 2 #[] #[])
  fields := #[]
  methods := #[k1m0, k1m1]
  instanceTypes := #[]
  staticTypes := #[]
  resolved := Array.replicate 75 none
  statics := none }

def pool2 : Array CpInfo := pool [(1, .methodref 2 3), (0, .class_ 4), (0, .nameAndType 5 6), (0, u "java/lang/Object"), (0, u "<init>"), (0, u "()V"), (0, .fieldref 8 9), (0, .class_ 10), (0, .nameAndType 11 12), (0, u "com/example/shortlist/shortlist/SelectionMeasures"), (0, u "collections"), (0, u "I"), (0, .fieldref 8 14), (0, .nameAndType 15 16), (0, u "rSums"), (0, u "[D"), (0, .fieldref 8 18), (0, .nameAndType 19 16), (0, u "rHatSums"), (0, .fieldref 8 21), (0, .nameAndType 22 16), (0, u "pSums"), (0, .fieldref 8 24), (0, .nameAndType 25 16), (0, u "cpSums"), (0, .fieldref 8 27), (0, .nameAndType 28 29), (0, u "found"), (0, u "[J"), (0, .fieldref 8 31), (0, .nameAndType 32 29), (0, u "best"), (9, .methodref 8 43), (0, .nameAndType 44 45), (0, u "sum"), (0, u "([I)J"), (2, .methodref 49 50), (0, .class_ 51), (0, .nameAndType 52 53), (0, u "[I"), (0, u "clone"), (0, u "()Ljava/lang/Object;"), (0, .methodref 55 56), (0, .class_ 57), (0, .nameAndType 58 59), (0, u "java/util/Arrays"), (0, u "sort"), (0, u "([I)V"), (0, .fieldref 8 61), (0, .nameAndType 62 12), (0, u "queries"), (0, .fieldref 8 64), (0, .nameAndType 65 66), (0, u "relevant"), (0, u "J"), (5, .class_ 73), (0, u "java/util/ArrayList"), (0, .methodref 72 3), (0, .class_ 76), (0, u "com/example/shortlist/shortlist/SelectionMeasures$Row"), (0, .methodref 75 78), (0, .nameAndType 5 79), (0, u "(IDDDDDD)V"), (0, .interfaceMethodref 81 82), (0, .class_ 83), (0, .nameAndType 84 85), (0, u "java/util/List"), (0, u "add"), (0, u "(Ljava/lang/Object;)Z"), (3, u "(I)V"), (2, u "([I[I)V"), (3, u "rows"), (0, u "()Ljava/util/List;")] 23

def k2c0 : Code := { maxStack := 2, maxLocals := 2, code := prog_41_method_1_code, exceptionTable := #[], attributes := #[] }
def k2m0 : Method := { name := "<init>", desc := "(I)V", sig := { parameters := [.int], returnType := none }, accessFlags := 1, code := some k2c0 }
def k2c1 : Code := { maxStack := 8, maxLocals := 16, code := prog_41_method_2_code, exceptionTable := #[], attributes := #[] }
def k2m1 : Method := { name := "add", desc := "([I[I)V", sig := { parameters := [(.array .int), (.array .int)], returnType := none }, accessFlags := 1, code := some k2c1 }
def k2c2 : Code := { maxStack := 18, maxLocals := 3, code := prog_41_method_5_code, exceptionTable := #[], attributes := #[] }
def k2m2 : Method := { name := "rows", desc := "()Ljava/util/List;", sig := { parameters := [], returnType := some (.object "java/util/List") }, accessFlags := 1, code := some k2c2 }
def k2c3 : Code := { maxStack := 4, maxLocals := 7, code := prog_41_method_6_code, exceptionTable := #[], attributes := #[] }
def k2m3 : Method := { name := "sum", desc := "([I)J", sig := { parameters := [(.array .int)], returnType := some .long }, accessFlags := 10, code := some k2c3 }
/-- com/example/shortlist/shortlist/SelectionMeasures -/
def k2 : Class := { plain "com/example/shortlist/shortlist/SelectionMeasures" (some 0) with
  accessFlags := 33
  interfaces := #[]
  cf := some (fileOf pool2 8 #[.nestMembers #[75]] #[{ accessFlags := 1, nameIndex := 5, descriptorIndex := 89, attributes := #[] }, { accessFlags := 1, nameIndex := 84, descriptorIndex := 92, attributes := #[] }, { accessFlags := 1, nameIndex := 96, descriptorIndex := 97, attributes := #[] }, { accessFlags := 10, nameIndex := 44, descriptorIndex := 45, attributes := #[] }] 33 2 #[] #[{ accessFlags := 18, nameIndex := 11, descriptorIndex := 12, attributes := #[] }, { accessFlags := 18, nameIndex := 15, descriptorIndex := 16, attributes := #[] }, { accessFlags := 18, nameIndex := 19, descriptorIndex := 16, attributes := #[] }, { accessFlags := 18, nameIndex := 22, descriptorIndex := 16, attributes := #[] }, { accessFlags := 18, nameIndex := 25, descriptorIndex := 16, attributes := #[] }, { accessFlags := 18, nameIndex := 28, descriptorIndex := 29, attributes := #[] }, { accessFlags := 18, nameIndex := 32, descriptorIndex := 29, attributes := #[] }, { accessFlags := 2, nameIndex := 62, descriptorIndex := 12, attributes := #[] }, { accessFlags := 2, nameIndex := 65, descriptorIndex := 66, attributes := #[] }])
  fields := #[{ name := "collections", type := .int, accessFlags := 18, slot := 0, constantValue := 0 }, { name := "rSums", type := (.array .double), accessFlags := 18, slot := 1, constantValue := 0 }, { name := "rHatSums", type := (.array .double), accessFlags := 18, slot := 2, constantValue := 0 }, { name := "pSums", type := (.array .double), accessFlags := 18, slot := 3, constantValue := 0 }, { name := "cpSums", type := (.array .double), accessFlags := 18, slot := 4, constantValue := 0 }, { name := "found", type := (.array .long), accessFlags := 18, slot := 5, constantValue := 0 }, { name := "best", type := (.array .long), accessFlags := 18, slot := 6, constantValue := 0 }, { name := "queries", type := .int, accessFlags := 2, slot := 7, constantValue := 0 }, { name := "relevant", type := .long, accessFlags := 2, slot := 8, constantValue := 0 }]
  methods := #[k2m0, k2m1, k2m2, k2m3]
  instanceTypes := #[.int, (.array .double), (.array .double), (.array .double), (.array .double), (.array .long), (.array .long), .int, .long]
  staticTypes := #[]
  resolved := Array.replicate 121 none
  statics := none }

def pool3 : Array CpInfo := pool [(1, .class_ 2), (0, u "java/lang/Cloneable"), (0, .class_ 4), (0, u "java/lang/Object")] 2

/-- java/lang/Cloneable -/
def k3 : Class := { plain "java/lang/Cloneable" (some 0) with
  accessFlags := 1537
  interfaces := #[]
  cf := some (fileOf pool3 1 #[] #[] 1537 3 #[] #[])
  fields := #[]
  methods := #[]
  instanceTypes := #[]
  staticTypes := #[]
  resolved := Array.replicate 7 none
  statics := none }

def pool4 : Array CpInfo := pool [(2, .class_ 4), (1, u "java/lang/Object"), (0, u "<init>"), (0, u "()V"), (0, .methodref 8 9), (0, .class_ 10), (0, .nameAndType 11 12), (0, u "java/util/DualPivotQuicksort"), (0, u "sort"), (0, u "([IIII)V"), (1, .class_ 16), (1, u "java/util/Arrays"), (57, .class_ 76), (1, u "java/util/Arrays$NaturalOrder"), (36, .class_ 115), (1, u "java/util/Arrays$LegacyMergeSort"), (1, u "Z"), (257, .class_ 376), (0, u "java/util/Arrays$ArrayList"), (68, u "$assertionsDisabled"), (269, u "MIN_ARRAY_SORT_GRAN"), (0, u "I"), (2, u "INSERTIONSORT_THRESHOLD"), (6, u "([I)V"), (248, .class_ 976), (0, u "java/util/Arrays$ArrayItr")] 52

def k4m0 : Method := { name := "<init>", desc := "()V", sig := { parameters := [], returnType := none }, accessFlags := 2, code := none }
def k4c1 : Code := { maxStack := 4, maxLocals := 1, code := jdk_65_method_2_code, exceptionTable := #[], attributes := #[] }
def k4m1 : Method := { name := "sort", desc := "([I)V", sig := { parameters := [(.array .int)], returnType := none }, accessFlags := 9, code := some k4c1 }
/-- java/util/Arrays -/
def k4 : Class := { plain "java/util/Arrays" (some 0) with
  accessFlags := 49
  interfaces := #[]
  cf := some (fileOf pool4 14 #[.nestMembers #[975, 375, 113, 74]] #[{ accessFlags := 2, nameIndex := 5, descriptorIndex := 6, attributes := #[] }, { accessFlags := 9, nameIndex := 11, descriptorIndex := 726, attributes := #[] }] 49 2 #[] #[{ accessFlags := 26, nameIndex := 715, descriptorIndex := 716, attributes := #[] }, { accessFlags := 26, nameIndex := 719, descriptorIndex := 716, attributes := #[] }, { accessFlags := 4120, nameIndex := 445, descriptorIndex := 117, attributes := #[] }])
  fields := #[{ name := "MIN_ARRAY_SORT_GRAN", type := .int, accessFlags := 26, slot := 0, constantValue := 0 }, { name := "INSERTIONSORT_THRESHOLD", type := .int, accessFlags := 26, slot := 1, constantValue := 0 }, { name := "$assertionsDisabled", type := .boolean, accessFlags := 4120, slot := 2, constantValue := 0 }]
  methods := #[k4m0, k4m1]
  instanceTypes := #[]
  staticTypes := #[.int, .int, .boolean]
  resolved := Array.replicate 1029 none
  statics := none }

def pool5 : Array CpInfo := pool [(1, .class_ 2), (0, u "java/util/DualPivotQuicksort"), (5, .class_ 10), (1, u "java/lang/Object"), (0, u "<init>"), (0, u "()V"), (4, .class_ 18), (0, u "java/util/DualPivotQuicksort$Sorter"), (7, .methodref 1 27), (0, .nameAndType 28 29), (0, u "sort"), (0, u "(Ljava/util/DualPivotQuicksort$Sorter;[IIII)V"), (3, u "([IIII)V"), (0, .methodref 1 35), (0, .nameAndType 36 37), (0, u "insertionSort"), (0, u "([III)V"), (30, u "I"), (4, .class_ 74), (0, u "java/util/DualPivotQuicksort$RunMerger"), (10, .class_ 86), (0, u "java/util/DualPivotQuicksort$Merger"), (127, u "MAX_MIXED_INSERTION_SORT_SIZE"), (2, u "MAX_INSERTION_SORT_SIZE"), (1, u "MIN_PARALLEL_SORT_SIZE"), (1, u "MIN_TRY_MERGE_SIZE"), (0, u "MIN_FIRST_RUN_SIZE"), (1, u "MIN_FIRST_RUNS_FACTOR"), (1, u "MAX_RUN_CAPACITY"), (1, u "MIN_RUN_COUNT"), (1, u "MIN_PARALLEL_MERGE_PARTS_SIZE"), (0, u "MIN_BYTE_COUNTING_SORT_SIZE"), (1, u "MIN_SHORT_OR_CHAR_COUNTING_SORT_SIZE"), (1, u "DELTA"), (1, u "MAX_RECURSION_DEPTH"), (1, u "NUM_BYTE_VALUES"), (1, u "MAX_BYTE_INDEX"), (0, u "NUM_CHAR_VALUES"), (0, u "NUM_SHORT_VALUES"), (0, u "MAX_SHORT_INDEX")] 86

def k5m0 : Method := { name := "<init>", desc := "()V", sig := { parameters := [], returnType := none }, accessFlags := 2, code := none }
def k5c1 : Code := { maxStack := 9, maxLocals := 7, code := jdk_2529_method_3_code, exceptionTable := #[], attributes := #[] }
def k5m1 : Method := { name := "sort", desc := "([IIII)V", sig := { parameters := [(.array .int), .int, .int, .int], returnType := none }, accessFlags := 8, code := some k5c1 }
def k5c2 : Code := { maxStack := 6, maxLocals := 21, code := jdk_2529_method_4_code, exceptionTable := #[], attributes := #[] }
def k5m2 : Method := { name := "sort", desc := "(Ljava/util/DualPivotQuicksort$Sorter;[IIII)V", sig := { parameters := [(.object "java/util/DualPivotQuicksort$Sorter"), (.array .int), .int, .int, .int], returnType := none }, accessFlags := 8, code := some k5c2 }
def k5c3 : Code := { maxStack := 4, maxLocals := 6, code := jdk_2529_method_6_code, exceptionTable := #[], attributes := #[] }
def k5m3 : Method := { name := "insertionSort", desc := "([III)V", sig := { parameters := [(.array .int), .int, .int], returnType := none }, accessFlags := 10, code := some k5c3 }
/-- java/util/DualPivotQuicksort -/
def k5 : Class := { plain "java/util/DualPivotQuicksort" (some 0) with
  accessFlags := 48
  interfaces := #[]
  cf := some (fileOf pool5 1 #[.nestMembers #[73, 85, 17]] #[{ accessFlags := 2, nameIndex := 11, descriptorIndex := 12, attributes := #[] }, { accessFlags := 8, nameIndex := 28, descriptorIndex := 33, attributes := #[] }, { accessFlags := 8, nameIndex := 28, descriptorIndex := 29, attributes := #[] }, { accessFlags := 10, nameIndex := 36, descriptorIndex := 37, attributes := #[] }] 48 8 #[] #[{ accessFlags := 26, nameIndex := 214, descriptorIndex := 68, attributes := #[] }, { accessFlags := 26, nameIndex := 217, descriptorIndex := 68, attributes := #[] }, { accessFlags := 26, nameIndex := 219, descriptorIndex := 68, attributes := #[] }, { accessFlags := 26, nameIndex := 221, descriptorIndex := 68, attributes := #[] }, { accessFlags := 26, nameIndex := 222, descriptorIndex := 68, attributes := #[] }, { accessFlags := 26, nameIndex := 224, descriptorIndex := 68, attributes := #[] }, { accessFlags := 26, nameIndex := 226, descriptorIndex := 68, attributes := #[] }, { accessFlags := 26, nameIndex := 228, descriptorIndex := 68, attributes := #[] }, { accessFlags := 26, nameIndex := 230, descriptorIndex := 68, attributes := #[] }, { accessFlags := 26, nameIndex := 231, descriptorIndex := 68, attributes := #[] }, { accessFlags := 26, nameIndex := 233, descriptorIndex := 68, attributes := #[] }, { accessFlags := 26, nameIndex := 235, descriptorIndex := 68, attributes := #[] }, { accessFlags := 26, nameIndex := 237, descriptorIndex := 68, attributes := #[] }, { accessFlags := 26, nameIndex := 239, descriptorIndex := 68, attributes := #[] }, { accessFlags := 26, nameIndex := 241, descriptorIndex := 68, attributes := #[] }, { accessFlags := 26, nameIndex := 242, descriptorIndex := 68, attributes := #[] }, { accessFlags := 26, nameIndex := 243, descriptorIndex := 68, attributes := #[] }, { accessFlags := 26, nameIndex := 244, descriptorIndex := 68, attributes := #[] }])
  fields := #[{ name := "MAX_MIXED_INSERTION_SORT_SIZE", type := .int, accessFlags := 26, slot := 0, constantValue := 0 }, { name := "MAX_INSERTION_SORT_SIZE", type := .int, accessFlags := 26, slot := 1, constantValue := 0 }, { name := "MIN_PARALLEL_SORT_SIZE", type := .int, accessFlags := 26, slot := 2, constantValue := 0 }, { name := "MIN_TRY_MERGE_SIZE", type := .int, accessFlags := 26, slot := 3, constantValue := 0 }, { name := "MIN_FIRST_RUN_SIZE", type := .int, accessFlags := 26, slot := 4, constantValue := 0 }, { name := "MIN_FIRST_RUNS_FACTOR", type := .int, accessFlags := 26, slot := 5, constantValue := 0 }, { name := "MAX_RUN_CAPACITY", type := .int, accessFlags := 26, slot := 6, constantValue := 0 }, { name := "MIN_RUN_COUNT", type := .int, accessFlags := 26, slot := 7, constantValue := 0 }, { name := "MIN_PARALLEL_MERGE_PARTS_SIZE", type := .int, accessFlags := 26, slot := 8, constantValue := 0 }, { name := "MIN_BYTE_COUNTING_SORT_SIZE", type := .int, accessFlags := 26, slot := 9, constantValue := 0 }, { name := "MIN_SHORT_OR_CHAR_COUNTING_SORT_SIZE", type := .int, accessFlags := 26, slot := 10, constantValue := 0 }, { name := "DELTA", type := .int, accessFlags := 26, slot := 11, constantValue := 0 }, { name := "MAX_RECURSION_DEPTH", type := .int, accessFlags := 26, slot := 12, constantValue := 0 }, { name := "NUM_BYTE_VALUES", type := .int, accessFlags := 26, slot := 13, constantValue := 0 }, { name := "MAX_BYTE_INDEX", type := .int, accessFlags := 26, slot := 14, constantValue := 0 }, { name := "NUM_CHAR_VALUES", type := .int, accessFlags := 26, slot := 15, constantValue := 0 }, { name := "NUM_SHORT_VALUES", type := .int, accessFlags := 26, slot := 16, constantValue := 0 }, { name := "MAX_SHORT_INDEX", type := .int, accessFlags := 26, slot := 17, constantValue := 0 }]
  methods := #[k5m0, k5m1, k5m2, k5m3]
  instanceTypes := #[]
  staticTypes := #[.int, .int, .int, .int, .int, .int, .int, .int, .int, .int, .int, .int, .int, .int, .int, .int, .int, .int]
  resolved := Array.replicate 331 none
  statics := none }

def pool6 : Array CpInfo := pool [(8, .class_ 10), (1, u "java/lang/Iterable"), (24, .class_ 36), (0, u "java/lang/Object")] 25

/-- java/lang/Iterable -/
def k6 : Class := { plain "java/lang/Iterable" (some 0) with
  accessFlags := 1537
  interfaces := #[]
  cf := some (fileOf pool6 8 #[] #[] 1537 35 #[] #[])
  fields := #[]
  methods := #[]
  instanceTypes := #[]
  staticTypes := #[]
  resolved := Array.replicate 62 none
  statics := none }

def pool7 : Array CpInfo := pool [(10, .class_ 12), (1, u "java/util/Collection"), (47, .class_ 61), (0, u "java/lang/Object"), (0, .class_ 63), (0, u "java/lang/Iterable")] 51

/-- java/util/Collection -/
def k7 : Class := { plain "java/util/Collection" (some 0) with
  accessFlags := 1537
  interfaces := #[6]
  cf := some (fileOf pool7 10 #[] #[] 1537 60 #[62] #[])
  fields := #[]
  methods := #[]
  instanceTypes := #[]
  staticTypes := #[]
  resolved := Array.replicate 115 none
  statics := none }

def pool8 : Array CpInfo := pool [(1, .methodref 2 3), (0, .class_ 4), (0, .nameAndType 5 6), (0, u "java/lang/Object"), (0, u "<init>"), (0, u "()V"), (1, .class_ 10), (1, u "java/util/AbstractCollection"), (66, .class_ 78), (0, u "java/util/Collection")] 81

def k8c0 : Code := { maxStack := 1, maxLocals := 1, code := jdk_22_method_1_code, exceptionTable := #[], attributes := #[] }
def k8m0 : Method := { name := "<init>", desc := "()V", sig := { parameters := [], returnType := none }, accessFlags := 4, code := some k8c0 }
/-- java/util/AbstractCollection -/
def k8 : Class := { plain "java/util/AbstractCollection" (some 0) with
  accessFlags := 1057
  interfaces := #[7]
  cf := some (fileOf pool8 8 #[] #[{ accessFlags := 4, nameIndex := 5, descriptorIndex := 6, attributes := #[] }] 1057 2 #[77] #[])
  fields := #[]
  methods := #[k8m0]
  instanceTypes := #[]
  staticTypes := #[]
  resolved := Array.replicate 160 none
  statics := none }

def pool9 : Array CpInfo := pool [(8, .class_ 10), (1, u "java/util/SequencedCollection"), (15, .class_ 27), (0, u "java/lang/Object"), (0, .class_ 29), (0, u "java/util/Collection")] 27

/-- java/util/SequencedCollection -/
def k9 : Class := { plain "java/util/SequencedCollection" (some 0) with
  accessFlags := 1537
  interfaces := #[7]
  cf := some (fileOf pool9 8 #[] #[] 1537 26 #[28] #[])
  fields := #[]
  methods := #[]
  instanceTypes := #[]
  staticTypes := #[]
  resolved := Array.replicate 57 none
  statics := none }

def pool10 : Array CpInfo := pool [(8, .class_ 10), (1, u "java/util/List"), (49, u "add"), (3, u "(Ljava/lang/Object;)Z"), (10, u "get"), (0, u "(I)Ljava/lang/Object;"), (2, u "size"), (0, u "()I"), (22, .class_ 104), (0, u "java/lang/Object"), (15, .class_ 121), (0, u "java/util/SequencedCollection")] 129

def k10m0 : Method := { name := "size", desc := "()I", sig := { parameters := [], returnType := some .int }, accessFlags := 1025, code := none }
def k10m1 : Method := { name := "add", desc := "(Ljava/lang/Object;)Z", sig := { parameters := [(.object "java/lang/Object")], returnType := some .boolean }, accessFlags := 1025, code := none }
def k10m2 : Method := { name := "get", desc := "(I)Ljava/lang/Object;", sig := { parameters := [.int], returnType := some (.object "java/lang/Object") }, accessFlags := 1025, code := none }
/-- java/util/List -/
def k10 : Class := { plain "java/util/List" (some 0) with
  accessFlags := 1537
  interfaces := #[9]
  cf := some (fileOf pool10 8 #[] #[{ accessFlags := 1025, nameIndex := 79, descriptorIndex := 80, attributes := #[] }, { accessFlags := 1025, nameIndex := 60, descriptorIndex := 64, attributes := #[] }, { accessFlags := 1025, nameIndex := 75, descriptorIndex := 76, attributes := #[] }] 1537 103 #[120] #[])
  fields := #[]
  methods := #[k10m0, k10m1, k10m2]
  instanceTypes := #[]
  staticTypes := #[]
  resolved := Array.replicate 251 none
  statics := none }

def pool11 : Array CpInfo := pool [(1, .methodref 2 3), (0, .class_ 4), (0, .nameAndType 5 6), (0, u "java/util/AbstractCollection"), (0, u "<init>"), (0, u "()V"), (0, .fieldref 8 9), (0, .class_ 10), (0, .nameAndType 11 12), (0, u "java/util/AbstractList"), (0, u "modCount"), (0, u "I"), (64, .class_ 78), (0, u "java/util/AbstractList$Itr"), (3, .class_ 83), (0, u "java/util/AbstractList$ListItr"), (9, .class_ 94), (0, u "java/util/AbstractList$RandomAccessSubList"), (3, .class_ 99), (0, u "java/util/AbstractList$SubList"), (33, .class_ 134), (0, u "java/util/List"), (73, .class_ 209), (0, u "java/util/AbstractList$SubList$1"), (0, .class_ 211), (0, u "java/util/AbstractList$RandomAccessSpliterator")] 6

def k11c0 : Code := { maxStack := 2, maxLocals := 1, code := jdk_39_method_1_code, exceptionTable := #[], attributes := #[] }
def k11m0 : Method := { name := "<init>", desc := "()V", sig := { parameters := [], returnType := none }, accessFlags := 4, code := some k11c0 }
/-- java/util/AbstractList -/
def k11 : Class := { plain "java/util/AbstractList" (some 8) with
  accessFlags := 1057
  interfaces := #[10]
  cf := some (fileOf pool11 8 #[.nestMembers #[93, 98, 208, 210, 82, 77]] #[{ accessFlags := 4, nameIndex := 5, descriptorIndex := 6, attributes := #[] }] 1057 2 #[133] #[{ accessFlags := 132, nameIndex := 11, descriptorIndex := 12, attributes := #[] }])
  fields := #[{ name := "modCount", type := .int, accessFlags := 132, slot := 0, constantValue := 0 }]
  methods := #[k11m0]
  instanceTypes := #[.int]
  staticTypes := #[]
  resolved := Array.replicate 218 none
  statics := none }

def pool12 : Array CpInfo := pool [(1, .class_ 2), (0, u "java/util/RandomAccess"), (0, .class_ 4), (0, u "java/lang/Object")] 2

/-- java/util/RandomAccess -/
def k12 : Class := { plain "java/util/RandomAccess" (some 0) with
  accessFlags := 1537
  interfaces := #[]
  cf := some (fileOf pool12 1 #[] #[] 1537 3 #[] #[])
  fields := #[]
  methods := #[]
  instanceTypes := #[]
  staticTypes := #[]
  resolved := Array.replicate 7 none
  statics := none }

def pool13 : Array CpInfo := pool [(1, .class_ 2), (0, u "java/io/Serializable"), (0, .class_ 4), (0, u "java/lang/Object")] 2

/-- java/io/Serializable -/
def k13 : Class := { plain "java/io/Serializable" (some 0) with
  accessFlags := 1537
  interfaces := #[]
  cf := some (fileOf pool13 1 #[] #[] 1537 3 #[] #[])
  fields := #[]
  methods := #[]
  instanceTypes := #[]
  staticTypes := #[]
  resolved := Array.replicate 7 none
  statics := none }

def pool14 : Array CpInfo := pool [(1, .methodref 2 3), (0, .class_ 4), (0, .nameAndType 5 6), (0, u "java/util/AbstractList"), (0, u "<init>"), (0, u "()V"), (0, .class_ 8), (0, u "java/lang/Object"), (0, .fieldref 10 11), (0, .class_ 12), (0, .nameAndType 13 14), (0, u "java/util/ArrayList"), (0, u "elementData"), (0, u "[Ljava/lang/Object;"), (2, u "EMPTY_ELEMENTDATA"), (21, .fieldref 10 40), (0, .nameAndType 41 14), (0, u "DEFAULTCAPACITY_EMPTY_ELEMENTDATA"), (5, u "()[Ljava/lang/Object;"), (0, .fieldref 10 49), (0, .nameAndType 50 51), (0, u "size"), (0, u "I"), (11, .fieldref 10 64), (0, .nameAndType 65 51), (0, u "modCount"), (3, .methodref 10 70), (0, .nameAndType 71 72), (0, u "grow"), (0, u "(I)[Ljava/lang/Object;"), (6, .methodref 80 81), (0, .class_ 82), (0, .nameAndType 83 84), (0, u "java/lang/Math"), (0, u "max"), (0, u "(II)I"), (11, u "(Ljava/lang/Object;)Z"), (21, .methodref 119 120), (0, .class_ 121), (0, .nameAndType 122 84), (0, u "java/util/Objects"), (0, u "checkIndex"), (0, .methodref 10 124), (0, .nameAndType 13 125), (0, u "(I)Ljava/lang/Object;"), (3, .methodref 10 130), (0, .nameAndType 71 47), (0, .methodref 10 132), (0, .nameAndType 133 134), (0, u "add"), (0, u "(Ljava/lang/Object;[Ljava/lang/Object;I)V"), (13, .class_ 149), (0, u "java/util/List"), (36, u "()I"), (75, .class_ 263), (0, u "java/util/ArrayList$ListItr"), (3, .class_ 268), (0, u "java/util/ArrayList$Itr"), (7, .class_ 277), (0, u "java/util/ArrayList$SubList"), (12, .class_ 291), (0, u "java/util/ArrayList$ArrayListSpliterator"), (37, .class_ 330), (0, u "java/util/RandomAccess"), (0, .class_ 332), (0, u "java/lang/Cloneable"), (0, .class_ 334), (0, u "java/io/Serializable"), (0, u "serialVersionUID"), (0, u "J"), (3, u "DEFAULT_CAPACITY"), (40, u "get"), (118, .class_ 501), (0, u "java/util/ArrayList$SubList$2"), (0, .class_ 503), (0, u "java/util/ArrayList$SubList$1")] 5

def k14c0 : Code := { maxStack := 2, maxLocals := 1, code := jdk_38_method_2_code, exceptionTable := #[], attributes := #[] }
def k14m0 : Method := { name := "<init>", desc := "()V", sig := { parameters := [], returnType := none }, accessFlags := 1, code := some k14c0 }
def k14c1 : Code := { maxStack := 4, maxLocals := 4, code := jdk_38_method_6_code, exceptionTable := #[], attributes := #[] }
def k14m1 : Method := { name := "grow", desc := "(I)[Ljava/lang/Object;", sig := { parameters := [.int], returnType := some (.array (.object "java/lang/Object")) }, accessFlags := 2, code := some k14c1 }
def k14c2 : Code := { maxStack := 3, maxLocals := 1, code := jdk_38_method_7_code, exceptionTable := #[], attributes := #[] }
def k14m2 : Method := { name := "grow", desc := "()[Ljava/lang/Object;", sig := { parameters := [], returnType := some (.array (.object "java/lang/Object")) }, accessFlags := 2, code := some k14c2 }
def k14c3 : Code := { maxStack := 1, maxLocals := 1, code := jdk_38_method_8_code, exceptionTable := #[], attributes := #[] }
def k14m3 : Method := { name := "size", desc := "()I", sig := { parameters := [], returnType := some .int }, accessFlags := 1, code := some k14c3 }
def k14c4 : Code := { maxStack := 2, maxLocals := 2, code := jdk_38_method_18_code, exceptionTable := #[], attributes := #[] }
def k14m4 : Method := { name := "elementData", desc := "(I)Ljava/lang/Object;", sig := { parameters := [.int], returnType := some (.object "java/lang/Object") }, accessFlags := 0, code := some k14c4 }
def k14c5 : Code := { maxStack := 2, maxLocals := 2, code := jdk_38_method_20_code, exceptionTable := #[], attributes := #[] }
def k14m5 : Method := { name := "get", desc := "(I)Ljava/lang/Object;", sig := { parameters := [.int], returnType := some (.object "java/lang/Object") }, accessFlags := 1, code := some k14c5 }
def k14c6 : Code := { maxStack := 3, maxLocals := 4, code := jdk_38_method_24_code, exceptionTable := #[], attributes := #[] }
def k14m6 : Method := { name := "add", desc := "(Ljava/lang/Object;[Ljava/lang/Object;I)V", sig := { parameters := [(.object "java/lang/Object"), (.array (.object "java/lang/Object")), .int], returnType := none }, accessFlags := 2, code := some k14c6 }
def k14c7 : Code := { maxStack := 4, maxLocals := 2, code := jdk_38_method_25_code, exceptionTable := #[], attributes := #[] }
def k14m7 : Method := { name := "add", desc := "(Ljava/lang/Object;)Z", sig := { parameters := [(.object "java/lang/Object")], returnType := some .boolean }, accessFlags := 1, code := some k14c7 }
/-- java/util/ArrayList -/
def k14 : Class := { plain "java/util/ArrayList" (some 11) with
  accessFlags := 33
  interfaces := #[10, 12, 3, 13]
  cf := some (fileOf pool14 10 #[.nestMembers #[290, 276, 500, 502, 262, 267]] #[{ accessFlags := 1, nameIndex := 5, descriptorIndex := 6, attributes := #[] }, { accessFlags := 2, nameIndex := 71, descriptorIndex := 72, attributes := #[] }, { accessFlags := 2, nameIndex := 71, descriptorIndex := 47, attributes := #[] }, { accessFlags := 1, nameIndex := 50, descriptorIndex := 186, attributes := #[] }, { accessFlags := 0, nameIndex := 13, descriptorIndex := 125, attributes := #[] }, { accessFlags := 1, nameIndex := 381, descriptorIndex := 125, attributes := #[] }, { accessFlags := 2, nameIndex := 133, descriptorIndex := 134, attributes := #[] }, { accessFlags := 1, nameIndex := 133, descriptorIndex := 96, attributes := #[] }] 33 2 #[148, 329, 331, 333] #[{ accessFlags := 26, nameIndex := 335, descriptorIndex := 336, attributes := #[] }, { accessFlags := 26, nameIndex := 340, descriptorIndex := 51, attributes := #[] }, { accessFlags := 26, nameIndex := 17, descriptorIndex := 14, attributes := #[] }, { accessFlags := 26, nameIndex := 41, descriptorIndex := 14, attributes := #[] }, { accessFlags := 128, nameIndex := 13, descriptorIndex := 14, attributes := #[] }, { accessFlags := 2, nameIndex := 50, descriptorIndex := 51, attributes := #[] }])
  fields := #[{ name := "serialVersionUID", type := .long, accessFlags := 26, slot := 0, constantValue := 0 }, { name := "DEFAULT_CAPACITY", type := .int, accessFlags := 26, slot := 1, constantValue := 0 }, { name := "EMPTY_ELEMENTDATA", type := (.array (.object "java/lang/Object")), accessFlags := 26, slot := 2, constantValue := 0 }, { name := "DEFAULTCAPACITY_EMPTY_ELEMENTDATA", type := (.array (.object "java/lang/Object")), accessFlags := 26, slot := 3, constantValue := 0 }, { name := "elementData", type := (.array (.object "java/lang/Object")), accessFlags := 128, slot := 1, constantValue := 0 }, { name := "size", type := .int, accessFlags := 2, slot := 2, constantValue := 0 }]
  methods := #[k14m0, k14m1, k14m2, k14m3, k14m4, k14m5, k14m6, k14m7]
  instanceTypes := #[.int, (.array (.object "java/lang/Object")), .int]
  staticTypes := #[.long, .int, (.array (.object "java/lang/Object")), (.array (.object "java/lang/Object"))]
  resolved := Array.replicate 509 none
  statics := some 0 }

def pool15 : Array CpInfo := pool [(1, .methodref 2 3), (0, .class_ 4), (0, .nameAndType 5 6), (0, u "java/lang/Object"), (0, u "<init>"), (0, u "()V"), (0, .class_ 8), (0, u "java/lang/Record")] 13

def k15c0 : Code := { maxStack := 1, maxLocals := 1, code := jdk_30_method_1_code, exceptionTable := #[], attributes := #[] }
def k15m0 : Method := { name := "<init>", desc := "()V", sig := { parameters := [], returnType := none }, accessFlags := 4, code := some k15c0 }
/-- java/lang/Record -/
def k15 : Class := { plain "java/lang/Record" (some 0) with
  accessFlags := 1057
  interfaces := #[]
  cf := some (fileOf pool15 7 #[] #[{ accessFlags := 4, nameIndex := 5, descriptorIndex := 6, attributes := #[] }] 1057 2 #[] #[])
  fields := #[]
  methods := #[k15m0]
  instanceTypes := #[]
  staticTypes := #[]
  resolved := Array.replicate 22 none
  statics := none }

def pool16 : Array CpInfo := pool [(1, .methodref 2 3), (0, .class_ 4), (0, .nameAndType 5 6), (0, u "java/lang/Record"), (0, u "<init>"), (0, u "()V"), (0, .fieldref 8 9), (0, .class_ 10), (0, .nameAndType 11 12), (0, u "com/example/shortlist/shortlist/SelectionMeasures$Row"), (0, u "n"), (0, u "I"), (0, .fieldref 8 14), (0, .nameAndType 15 16), (0, u "r"), (0, u "D"), (0, .fieldref 8 18), (0, .nameAndType 19 16), (0, u "rHat"), (0, .fieldref 8 21), (0, .nameAndType 22 16), (0, u "p"), (0, .fieldref 8 24), (0, .nameAndType 25 16), (0, u "accuracy"), (0, .fieldref 8 27), (0, .nameAndType 28 16), (0, u "share"), (0, .fieldref 8 30), (0, .nameAndType 31 16), (0, u "cp"), (12, u "(IDDDDDD)V"), (6, u "()D"), (3, .class_ 56), (0, u "com/example/shortlist/shortlist/SelectionMeasures")] 25

def k16c0 : Code := { maxStack := 3, maxLocals := 14, code := prog_42_method_1_code, exceptionTable := #[], attributes := #[] }
def k16m0 : Method := { name := "<init>", desc := "(IDDDDDD)V", sig := { parameters := [.int, .double, .double, .double, .double, .double, .double], returnType := none }, accessFlags := 1, code := some k16c0 }
def k16c1 : Code := { maxStack := 2, maxLocals := 1, code := prog_42_method_6_code, exceptionTable := #[], attributes := #[] }
def k16m1 : Method := { name := "r", desc := "()D", sig := { parameters := [], returnType := some .double }, accessFlags := 1, code := some k16c1 }
def k16c2 : Code := { maxStack := 2, maxLocals := 1, code := prog_42_method_7_code, exceptionTable := #[], attributes := #[] }
def k16m2 : Method := { name := "rHat", desc := "()D", sig := { parameters := [], returnType := some .double }, accessFlags := 1, code := some k16c2 }
def k16c3 : Code := { maxStack := 2, maxLocals := 1, code := prog_42_method_8_code, exceptionTable := #[], attributes := #[] }
def k16m3 : Method := { name := "p", desc := "()D", sig := { parameters := [], returnType := some .double }, accessFlags := 1, code := some k16c3 }
def k16c4 : Code := { maxStack := 2, maxLocals := 1, code := prog_42_method_9_code, exceptionTable := #[], attributes := #[] }
def k16m4 : Method := { name := "accuracy", desc := "()D", sig := { parameters := [], returnType := some .double }, accessFlags := 1, code := some k16c4 }
def k16c5 : Code := { maxStack := 2, maxLocals := 1, code := prog_42_method_10_code, exceptionTable := #[], attributes := #[] }
def k16m5 : Method := { name := "share", desc := "()D", sig := { parameters := [], returnType := some .double }, accessFlags := 1, code := some k16c5 }
def k16c6 : Code := { maxStack := 2, maxLocals := 1, code := prog_42_method_11_code, exceptionTable := #[], attributes := #[] }
def k16m6 : Method := { name := "cp", desc := "()D", sig := { parameters := [], returnType := some .double }, accessFlags := 1, code := some k16c6 }
/-- com/example/shortlist/shortlist/SelectionMeasures$Row -/
def k16 : Class := { plain "com/example/shortlist/shortlist/SelectionMeasures$Row" (some 15) with
  accessFlags := 49
  interfaces := #[]
  cf := some (fileOf pool16 8 #[.nestHost 55] #[{ accessFlags := 1, nameIndex := 5, descriptorIndex := 44, attributes := #[] }, { accessFlags := 1, nameIndex := 15, descriptorIndex := 51, attributes := #[] }, { accessFlags := 1, nameIndex := 19, descriptorIndex := 51, attributes := #[] }, { accessFlags := 1, nameIndex := 22, descriptorIndex := 51, attributes := #[] }, { accessFlags := 1, nameIndex := 25, descriptorIndex := 51, attributes := #[] }, { accessFlags := 1, nameIndex := 28, descriptorIndex := 51, attributes := #[] }, { accessFlags := 1, nameIndex := 31, descriptorIndex := 51, attributes := #[] }] 49 2 #[] #[{ accessFlags := 18, nameIndex := 11, descriptorIndex := 12, attributes := #[] }, { accessFlags := 18, nameIndex := 15, descriptorIndex := 16, attributes := #[] }, { accessFlags := 18, nameIndex := 19, descriptorIndex := 16, attributes := #[] }, { accessFlags := 18, nameIndex := 22, descriptorIndex := 16, attributes := #[] }, { accessFlags := 18, nameIndex := 25, descriptorIndex := 16, attributes := #[] }, { accessFlags := 18, nameIndex := 28, descriptorIndex := 16, attributes := #[] }, { accessFlags := 18, nameIndex := 31, descriptorIndex := 16, attributes := #[] }])
  fields := #[{ name := "n", type := .int, accessFlags := 18, slot := 0, constantValue := 0 }, { name := "r", type := .double, accessFlags := 18, slot := 1, constantValue := 0 }, { name := "rHat", type := .double, accessFlags := 18, slot := 2, constantValue := 0 }, { name := "p", type := .double, accessFlags := 18, slot := 3, constantValue := 0 }, { name := "accuracy", type := .double, accessFlags := 18, slot := 4, constantValue := 0 }, { name := "share", type := .double, accessFlags := 18, slot := 5, constantValue := 0 }, { name := "cp", type := .double, accessFlags := 18, slot := 6, constantValue := 0 }]
  methods := #[k16m0, k16m1, k16m2, k16m3, k16m4, k16m5, k16m6]
  instanceTypes := #[.int, .double, .double, .double, .double, .double, .double]
  staticTypes := #[]
  resolved := Array.replicate 82 none
  statics := none }

def pool17 : Array CpInfo := pool [(1, .class_ 2), (0, u "java/lang/Math"), (1, .class_ 6), (1, u "java/lang/Object"), (0, u "<init>"), (0, u "()V"), (89, .class_ 100), (1, u "java/lang/Math$RandomNumberGeneratorHolder"), (71, u "negativeZeroFloatBits"), (0, u "J"), (2, u "negativeZeroDoubleBits"), (21, u "max"), (46, u "$assertionsDisabled"), (0, u "Z"), (88, u "(II)I"), (2, u "twoToTheDoubleScaleDown"), (0, u "D"), (4, u "twoToTheDoubleScaleUp"), (9, u "E"), (3, u "PI"), (2, u "TAU"), (2, u "DEGREES_TO_RADIANS"), (0, u "RADIANS_TO_DEGREES")] 94

def k17m0 : Method := { name := "<init>", desc := "()V", sig := { parameters := [], returnType := none }, accessFlags := 2, code := none }
def k17c1 : Code := { maxStack := 2, maxLocals := 2, code := jdk_29_method_65_code, exceptionTable := #[], attributes := #[] }
def k17m1 : Method := { name := "max", desc := "(II)I", sig := { parameters := [.int, .int], returnType := some .int }, accessFlags := 9, code := some k17c1 }
/-- java/lang/Math -/
def k17 : Class := { plain "java/lang/Math" (some 0) with
  accessFlags := 49
  interfaces := #[]
  cf := some (fileOf pool17 1 #[.nestMembers #[98]] #[{ accessFlags := 2, nameIndex := 7, descriptorIndex := 8, attributes := #[] }, { accessFlags := 9, nameIndex := 198, descriptorIndex := 335, attributes := #[] }] 49 4 #[] #[{ accessFlags := 25, nameIndex := 354, descriptorIndex := 339, attributes := #[] }, { accessFlags := 25, nameIndex := 358, descriptorIndex := 339, attributes := #[] }, { accessFlags := 25, nameIndex := 361, descriptorIndex := 339, attributes := #[] }, { accessFlags := 26, nameIndex := 364, descriptorIndex := 339, attributes := #[] }, { accessFlags := 26, nameIndex := 365, descriptorIndex := 339, attributes := #[] }, { accessFlags := 26, nameIndex := 172, descriptorIndex := 173, attributes := #[] }, { accessFlags := 26, nameIndex := 176, descriptorIndex := 173, attributes := #[] }, { accessFlags := 8, nameIndex := 344, descriptorIndex := 339, attributes := #[] }, { accessFlags := 8, nameIndex := 338, descriptorIndex := 339, attributes := #[] }, { accessFlags := 4120, nameIndex := 245, descriptorIndex := 246, attributes := #[] }])
  fields := #[{ name := "E", type := .double, accessFlags := 25, slot := 0, constantValue := 0 }, { name := "PI", type := .double, accessFlags := 25, slot := 1, constantValue := 0 }, { name := "TAU", type := .double, accessFlags := 25, slot := 2, constantValue := 0 }, { name := "DEGREES_TO_RADIANS", type := .double, accessFlags := 26, slot := 3, constantValue := 0 }, { name := "RADIANS_TO_DEGREES", type := .double, accessFlags := 26, slot := 4, constantValue := 0 }, { name := "negativeZeroFloatBits", type := .long, accessFlags := 26, slot := 5, constantValue := 0 }, { name := "negativeZeroDoubleBits", type := .long, accessFlags := 26, slot := 6, constantValue := 0 }, { name := "twoToTheDoubleScaleUp", type := .double, accessFlags := 8, slot := 7, constantValue := 0 }, { name := "twoToTheDoubleScaleDown", type := .double, accessFlags := 8, slot := 8, constantValue := 0 }, { name := "$assertionsDisabled", type := .boolean, accessFlags := 4120, slot := 9, constantValue := 0 }]
  methods := #[k17m0, k17m1]
  instanceTypes := #[]
  staticTypes := #[.double, .double, .double, .double, .double, .long, .long, .double, .double, .boolean]
  resolved := Array.replicate 460 none
  statics := none }

def pool18 : Array CpInfo := pool [(2, .class_ 4), (1, u "java/lang/Object"), (0, u "<init>"), (0, u "()V"), (35, .class_ 44), (1, u "java/util/Objects"), (60, .methodref 106 107), (0, .class_ 108), (0, .nameAndType 109 110), (0, u "jdk/internal/util/Preconditions"), (0, u "checkIndex"), (0, u "(IILjava/util/function/BiFunction;)I"), (60, u "(II)I")] 12

def k18m0 : Method := { name := "<init>", desc := "()V", sig := { parameters := [], returnType := none }, accessFlags := 2, code := none }
def k18c1 : Code := { maxStack := 3, maxLocals := 2, code := jdk_31_method_17_code, exceptionTable := #[], attributes := #[] }
def k18m1 : Method := { name := "checkIndex", desc := "(II)I", sig := { parameters := [.int, .int], returnType := some .int }, accessFlags := 9, code := some k18c1 }
/-- java/util/Objects -/
def k18 : Class := { plain "java/util/Objects" (some 0) with
  accessFlags := 49
  interfaces := #[]
  cf := some (fileOf pool18 42 #[] #[{ accessFlags := 2, nameIndex := 5, descriptorIndex := 6, attributes := #[] }, { accessFlags := 9, nameIndex := 109, descriptorIndex := 171, attributes := #[] }] 49 2 #[] #[])
  fields := #[]
  methods := #[k18m0, k18m1]
  instanceTypes := #[]
  staticTypes := #[]
  resolved := Array.replicate 184 none
  statics := none }

def pool19 : Array CpInfo := pool [(2, .class_ 4), (1, u "java/lang/Object"), (0, u "<init>"), (0, u "()V"), (17, .class_ 26), (1, u "jdk/internal/util/Preconditions"), (6, u "checkIndex"), (21, .class_ 56), (0, u "jdk/internal/util/Preconditions$4"), (57, .class_ 115), (0, u "jdk/internal/util/Preconditions$1"), (7, u "SIOOBE_FORMATTER"), (0, u "Ljava/util/function/BiFunction;"), (0, .class_ 126), (0, u "jdk/internal/util/Preconditions$2"), (3, u "AIOOBE_FORMATTER"), (0, .class_ 132), (0, u "jdk/internal/util/Preconditions$3"), (3, u "IOOBE_FORMATTER"), (41, u "(IILjava/util/function/BiFunction;)I")] 15

def k19m0 : Method := { name := "<init>", desc := "()V", sig := { parameters := [], returnType := none }, accessFlags := 1, code := none }
def k19c1 : Code := { maxStack := 3, maxLocals := 3, code := jdk_41_method_11_code, exceptionTable := #[], attributes := #[] }
def k19m1 : Method := { name := "checkIndex", desc := "(IILjava/util/function/BiFunction;)I", sig := { parameters := [.int, .int, (.object "java/util/function/BiFunction")], returnType := some .int }, accessFlags := 9, code := some k19c1 }
/-- jdk/internal/util/Preconditions -/
def k19 : Class := { plain "jdk/internal/util/Preconditions" (some 0) with
  accessFlags := 33
  interfaces := #[]
  cf := some (fileOf pool19 24 #[.nestMembers #[55, 131, 125, 114]] #[{ accessFlags := 1, nameIndex := 5, descriptorIndex := 6, attributes := #[] }, { accessFlags := 9, nameIndex := 33, descriptorIndex := 178, attributes := #[] }] 33 2 #[] #[{ accessFlags := 25, nameIndex := 123, descriptorIndex := 124, attributes := #[] }, { accessFlags := 25, nameIndex := 130, descriptorIndex := 124, attributes := #[] }, { accessFlags := 25, nameIndex := 136, descriptorIndex := 124, attributes := #[] }])
  fields := #[{ name := "SIOOBE_FORMATTER", type := (.object "java/util/function/BiFunction"), accessFlags := 25, slot := 0, constantValue := 0 }, { name := "AIOOBE_FORMATTER", type := (.object "java/util/function/BiFunction"), accessFlags := 25, slot := 1, constantValue := 0 }, { name := "IOOBE_FORMATTER", type := (.object "java/util/function/BiFunction"), accessFlags := 25, slot := 2, constantValue := 0 }]
  methods := #[k19m0, k19m1]
  instanceTypes := #[]
  staticTypes := #[(.object "java/util/function/BiFunction"), (.object "java/util/function/BiFunction"), (.object "java/util/function/BiFunction")]
  resolved := Array.replicate 194 none
  statics := none }

/-- the primitive byte -/
def k20 : Class := { plain "byte" none with kind := .primitive 'B', accessFlags := 0x411 }
/-- [B -/
def k21 : Class := { plain "[B" (some 0) with kind := .array 20 .byte, interfaces := #[3, 13], accessFlags := 1041 }

/-- the primitive double -/
def k22 : Class := { plain "double" none with kind := .primitive 'D', accessFlags := 0x411 }
/-- [D -/
def k23 : Class := { plain "[D" (some 0) with kind := .array 22 .double, interfaces := #[3, 13], accessFlags := 1041 }

/-- the primitive int -/
def k24 : Class := { plain "int" none with kind := .primitive 'I', accessFlags := 0x411 }
/-- [I -/
def k25 : Class := { plain "[I" (some 0) with kind := .array 24 .int, interfaces := #[3, 13], accessFlags := 1041 }

/-- the primitive long -/
def k26 : Class := { plain "long" none with kind := .primitive 'J', accessFlags := 0x411 }
/-- [J -/
def k27 : Class := { plain "[J" (some 0) with kind := .array 26 .long, interfaces := #[3, 13], accessFlags := 1041 }

/-- [Ljava/lang/Object; -/
def k28 : Class := { plain "[Ljava/lang/Object;" (some 0) with kind := .array 0 (.object "java/lang/Object"), interfaces := #[3, 13], accessFlags := 1041 }

def heap : Heap := #[{ cls := 14, slots := #[.long 0, .int 0, .ref 1, .ref 2], vm := .statics 14 },
  { cls := 28, slots := #[], vm := .none },
  { cls := 28, slots := #[], vm := .none }]
def classes : Array Class := #[k0, k1, k2, k3, k4, k5, k6, k7, k8, k9, k10, k11, k12, k13, k14, k15, k16, k17, k18, k19, k20, k21, k22, k23, k24, k25, k26, k27, k28]
def interned : List (Array UInt16 × Addr) := []
def slotsUsed : Nat := 4
def theMethod : MethodId := ⟨1, 1⟩
def args0 : Array Value := #[.int 5, .int 3, .int 7, .int 5, .int 1]
def aboutOver (below : List Frame) : State where
  vm := { classes := classes, interned := interned.toArray }
  heap := heap
  slotsUsed := slotsUsed
  threads := #[{ frames := .invoking theMethod args0 :: below }]
def below0 : List Frame := [.native { method := ⟨0, 0⟩, args := #[] }]
def about1 : State := aboutOver below0
def p0 : Program := .bare "" "" ""
def e0 : Env := launch0.env 0 0 0
theorem w_frames : about1.frames = Frame.invoking theMethod args0 :: below0 := rfl
set_option maxRecDepth 65536 in
theorem w_args : argsFit about1.vm theMethod args0 = true := by decide +kernel
set_option maxRecDepth 65536 in
theorem w_heap : heapFits about1 = true := by decide +kernel
set_option maxRecDepth 65536 in
theorem w_runnable : about1.curStatus? = some .runnable := by decide +kernel
set_option maxRecDepth 65536 in
theorem w_alone : about1.alone = true := by decide +kernel
set_option maxRecDepth 65536 in
theorem w_named : about1.methodNamed? x = some theMethod := by decide +kernel
set_option maxRecDepth 65536 in
theorem w_hears : about1.hears theMethod below0 = true := by decide +kernel
set_option maxRecDepth 65536 in
theorem w_ripe : about1.ripe theMethod args0 below0 = true := by decide +kernel
theorem w_running : about1.status = .running := rfl
set_option maxRecDepth 65536 in
theorem w_room : about1.hasRoom e0.platform room_1 = true :=
  launch0.hasRoom_least _ room_1 (by decide +kernel) (by decide +kernel) (by decide +kernel) (by decide +kernel) (by decide +kernel) (by decide +kernel)
theorem allAtoms_all (ts : List Jvm.Cond) (a : Array Jvm.Value) (st : Jvm.State) : (allAtoms ts).before a st = ts.all (fun c => c.before a st) := by
  induction ts with
  | nil => rfl
  | cons c t ih =>
    show (Jvm.Cond.and c (allAtoms t)).before a st = _
    rw [Jvm.Cond.before_and, ih, List.all_cons]
def words1 : List Jvm.Cond := Jvm.Cond.code x code maxLocals ret :: tables_1
/-- a 'code' word, met by the world's own term for the bytes: nothing is compared byte by byte -/
theorem code_word {y : MethodName} {bytes : ByteArray} {mx : Nat} {rt : Option FieldType} {a : Array Value} {s : State} {m : MethodId} {meth : Method} {c : Code} (h1 : s.methodNamed? y = some m) (h2 : s.vm.method? m = some meth) (h3 : meth.code = some c) (h4 : c.code = bytes)
    (h5 : (c.maxLocals == mx && c.exceptionTable.isEmpty && decide (c.maxStack ≤ mostOperands) && decide (meth.sig.returnType = rt) && !meth.locks && decide (parseMethodDescriptor y.desc = some meth.sig)) = true) : (Jvm.Cond.code y bytes mx rt).before a s = true := by
  simp only [Bool.and_eq_true, beq_iff_eq, Bool.not_eq_true', decide_eq_true_eq] at h5
  obtain ⟨⟨⟨⟨⟨g1, g2⟩, g3⟩, g4⟩, g5⟩, g6⟩ := h5
  simp [Cond.before, Cond.holds, Cond.value, h1, h2, h3, h4, g1, g2, g3, g4, g5, g6]
def isCode : Jvm.Cond → Bool
  | .code _ _ _ _ => true
  | _ => false
theorem all_split {L : List Jvm.Cond} {P : Jvm.Cond → Bool} (h1 : L.all (fun c => isCode c || P c) = true) (h2 : ∀ c ∈ L.filter isCode, P c = true) : L.all P = true := by
  refine List.all_eq_true.mpr fun c hc => ?_
  have h := List.all_eq_true.mp h1 c hc
  rcases Bool.eq_false_or_eq_true (isCode c) with hi | hi
  · exact h2 c (List.mem_filter.mpr ⟨hc, hi⟩)
  · simpa [hi] using h
set_option maxRecDepth 65536 in
theorem w_c0 : (Jvm.Cond.code x code maxLocals ret).before args0 about1 = true := code_word (m := ⟨1, 1⟩) (meth := k1m1) (c := k1c1) (by decide +kernel) rfl rfl rfl (by decide +kernel)
set_option maxRecDepth 65536 in
theorem w_c1 : (Jvm.Cond.code ({ cls := "com/example/shortlist/shortlist/SelectionMeasures", name := "<init>", desc := "(I)V" } : Jvm.MethodName) prog_41_method_1_code (2 : Nat) (Option.none : Option Jvm.ClassFile.FieldType)).before args0 about1 = true := code_word (m := ⟨2, 0⟩) (meth := k2m0) (c := k2c0) (by decide +kernel) rfl rfl rfl (by decide +kernel)
set_option maxRecDepth 65536 in
theorem w_c2 : (Jvm.Cond.code ({ cls := "java/lang/Object", name := "<init>", desc := "()V" } : Jvm.MethodName) object_method_1_code (1 : Nat) (Option.none : Option Jvm.ClassFile.FieldType)).before args0 about1 = true := code_word (m := ⟨0, 0⟩) (meth := k0m0) (c := k0c0) (by decide +kernel) rfl rfl rfl (by decide +kernel)
set_option maxRecDepth 65536 in
theorem w_c3 : (Jvm.Cond.code ({ cls := "com/example/shortlist/shortlist/SelectionMeasures", name := "add", desc := "([I[I)V" } : Jvm.MethodName) prog_41_method_2_code (16 : Nat) (Option.none : Option Jvm.ClassFile.FieldType)).before args0 about1 = true := code_word (m := ⟨2, 1⟩) (meth := k2m1) (c := k2c1) (by decide +kernel) rfl rfl rfl (by decide +kernel)
set_option maxRecDepth 65536 in
theorem w_c4 : (Jvm.Cond.code ({ cls := "com/example/shortlist/shortlist/SelectionMeasures", name := "sum", desc := "([I)J" } : Jvm.MethodName) prog_41_method_6_code (7 : Nat) (Option.some Jvm.ClassFile.FieldType.long)).before args0 about1 = true := code_word (m := ⟨2, 3⟩) (meth := k2m3) (c := k2c3) (by decide +kernel) rfl rfl rfl (by decide +kernel)
set_option maxRecDepth 65536 in
theorem w_c5 : (Jvm.Cond.code ({ cls := "java/util/Arrays", name := "sort", desc := "([I)V" } : Jvm.MethodName) jdk_65_method_2_code (1 : Nat) (Option.none : Option Jvm.ClassFile.FieldType)).before args0 about1 = true := code_word (m := ⟨4, 1⟩) (meth := k4m1) (c := k4c1) (by decide +kernel) rfl rfl rfl (by decide +kernel)
set_option maxRecDepth 65536 in
theorem w_c6 : (Jvm.Cond.code ({ cls := "java/util/DualPivotQuicksort", name := "sort", desc := "([IIII)V" } : Jvm.MethodName) jdk_2529_method_3_code (7 : Nat) (Option.none : Option Jvm.ClassFile.FieldType)).before args0 about1 = true := code_word (m := ⟨5, 1⟩) (meth := k5m1) (c := k5c1) (by decide +kernel) rfl rfl rfl (by decide +kernel)
set_option maxRecDepth 65536 in
theorem w_c7 : (Jvm.Cond.code ({ cls := "java/util/DualPivotQuicksort", name := "sort", desc := "(Ljava/util/DualPivotQuicksort$Sorter;[IIII)V" } : Jvm.MethodName) jdk_2529_method_4_code (21 : Nat) (Option.none : Option Jvm.ClassFile.FieldType)).before args0 about1 = true := code_word (m := ⟨5, 2⟩) (meth := k5m2) (c := k5c2) (by decide +kernel) rfl rfl rfl (by decide +kernel)
set_option maxRecDepth 65536 in
theorem w_c8 : (Jvm.Cond.code ({ cls := "java/util/DualPivotQuicksort", name := "insertionSort", desc := "([III)V" } : Jvm.MethodName) jdk_2529_method_6_code (6 : Nat) (Option.none : Option Jvm.ClassFile.FieldType)).before args0 about1 = true := code_word (m := ⟨5, 3⟩) (meth := k5m3) (c := k5c3) (by decide +kernel) rfl rfl rfl (by decide +kernel)
set_option maxRecDepth 65536 in
theorem w_c9 : (Jvm.Cond.code ({ cls := "com/example/shortlist/shortlist/SelectionMeasures", name := "rows", desc := "()Ljava/util/List;" } : Jvm.MethodName) prog_41_method_5_code (3 : Nat) (Option.some (Jvm.ClassFile.FieldType.object "java/util/List"))).before args0 about1 = true := code_word (m := ⟨2, 2⟩) (meth := k2m2) (c := k2c2) (by decide +kernel) rfl rfl rfl (by decide +kernel)
set_option maxRecDepth 65536 in
theorem w_c10 : (Jvm.Cond.code ({ cls := "java/util/ArrayList", name := "<init>", desc := "()V" } : Jvm.MethodName) jdk_38_method_2_code (1 : Nat) (Option.none : Option Jvm.ClassFile.FieldType)).before args0 about1 = true := code_word (m := ⟨14, 0⟩) (meth := k14m0) (c := k14c0) (by decide +kernel) rfl rfl rfl (by decide +kernel)
set_option maxRecDepth 65536 in
theorem w_c11 : (Jvm.Cond.code ({ cls := "java/util/AbstractList", name := "<init>", desc := "()V" } : Jvm.MethodName) jdk_39_method_1_code (1 : Nat) (Option.none : Option Jvm.ClassFile.FieldType)).before args0 about1 = true := code_word (m := ⟨11, 0⟩) (meth := k11m0) (c := k11c0) (by decide +kernel) rfl rfl rfl (by decide +kernel)
set_option maxRecDepth 65536 in
theorem w_c12 : (Jvm.Cond.code ({ cls := "java/util/AbstractCollection", name := "<init>", desc := "()V" } : Jvm.MethodName) jdk_22_method_1_code (1 : Nat) (Option.none : Option Jvm.ClassFile.FieldType)).before args0 about1 = true := code_word (m := ⟨8, 0⟩) (meth := k8m0) (c := k8c0) (by decide +kernel) rfl rfl rfl (by decide +kernel)
set_option maxRecDepth 65536 in
theorem w_c13 : (Jvm.Cond.code ({ cls := "com/example/shortlist/shortlist/SelectionMeasures$Row", name := "<init>", desc := "(IDDDDDD)V" } : Jvm.MethodName) prog_42_method_1_code (14 : Nat) (Option.none : Option Jvm.ClassFile.FieldType)).before args0 about1 = true := code_word (m := ⟨16, 0⟩) (meth := k16m0) (c := k16c0) (by decide +kernel) rfl rfl rfl (by decide +kernel)
set_option maxRecDepth 65536 in
theorem w_c14 : (Jvm.Cond.code ({ cls := "java/lang/Record", name := "<init>", desc := "()V" } : Jvm.MethodName) jdk_30_method_1_code (1 : Nat) (Option.none : Option Jvm.ClassFile.FieldType)).before args0 about1 = true := code_word (m := ⟨15, 0⟩) (meth := k15m0) (c := k15c0) (by decide +kernel) rfl rfl rfl (by decide +kernel)
set_option maxRecDepth 65536 in
theorem w_c15 : (Jvm.Cond.code ({ cls := "java/util/ArrayList", name := "add", desc := "(Ljava/lang/Object;)Z" } : Jvm.MethodName) jdk_38_method_25_code (2 : Nat) (Option.some Jvm.ClassFile.FieldType.boolean)).before args0 about1 = true := code_word (m := ⟨14, 7⟩) (meth := k14m7) (c := k14c7) (by decide +kernel) rfl rfl rfl (by decide +kernel)
set_option maxRecDepth 65536 in
theorem w_c16 : (Jvm.Cond.code ({ cls := "java/util/ArrayList", name := "add", desc := "(Ljava/lang/Object;[Ljava/lang/Object;I)V" } : Jvm.MethodName) jdk_38_method_24_code (4 : Nat) (Option.none : Option Jvm.ClassFile.FieldType)).before args0 about1 = true := code_word (m := ⟨14, 6⟩) (meth := k14m6) (c := k14c6) (by decide +kernel) rfl rfl rfl (by decide +kernel)
set_option maxRecDepth 65536 in
theorem w_c17 : (Jvm.Cond.code ({ cls := "java/util/ArrayList", name := "grow", desc := "()[Ljava/lang/Object;" } : Jvm.MethodName) jdk_38_method_7_code (1 : Nat) (Option.some (Jvm.ClassFile.FieldType.array (Jvm.ClassFile.FieldType.object "java/lang/Object")))).before args0 about1 = true := code_word (m := ⟨14, 2⟩) (meth := k14m2) (c := k14c2) (by decide +kernel) rfl rfl rfl (by decide +kernel)
set_option maxRecDepth 65536 in
theorem w_c18 : (Jvm.Cond.code ({ cls := "java/util/ArrayList", name := "grow", desc := "(I)[Ljava/lang/Object;" } : Jvm.MethodName) jdk_38_method_6_code (4 : Nat) (Option.some (Jvm.ClassFile.FieldType.array (Jvm.ClassFile.FieldType.object "java/lang/Object")))).before args0 about1 = true := code_word (m := ⟨14, 1⟩) (meth := k14m1) (c := k14c1) (by decide +kernel) rfl rfl rfl (by decide +kernel)
set_option maxRecDepth 65536 in
theorem w_c19 : (Jvm.Cond.code ({ cls := "java/lang/Math", name := "max", desc := "(II)I" } : Jvm.MethodName) jdk_29_method_65_code (2 : Nat) (Option.some Jvm.ClassFile.FieldType.int)).before args0 about1 = true := code_word (m := ⟨17, 1⟩) (meth := k17m1) (c := k17c1) (by decide +kernel) rfl rfl rfl (by decide +kernel)
set_option maxRecDepth 65536 in
theorem w_c20 : (Jvm.Cond.code ({ cls := "java/util/ArrayList", name := "size", desc := "()I" } : Jvm.MethodName) jdk_38_method_8_code (1 : Nat) (Option.some Jvm.ClassFile.FieldType.int)).before args0 about1 = true := code_word (m := ⟨14, 3⟩) (meth := k14m3) (c := k14c3) (by decide +kernel) rfl rfl rfl (by decide +kernel)
set_option maxRecDepth 65536 in
theorem w_c21 : (Jvm.Cond.code ({ cls := "java/util/ArrayList", name := "get", desc := "(I)Ljava/lang/Object;" } : Jvm.MethodName) jdk_38_method_20_code (2 : Nat) (Option.some (Jvm.ClassFile.FieldType.object "java/lang/Object"))).before args0 about1 = true := code_word (m := ⟨14, 5⟩) (meth := k14m5) (c := k14c5) (by decide +kernel) rfl rfl rfl (by decide +kernel)
set_option maxRecDepth 65536 in
theorem w_c22 : (Jvm.Cond.code ({ cls := "java/util/Objects", name := "checkIndex", desc := "(II)I" } : Jvm.MethodName) jdk_31_method_17_code (2 : Nat) (Option.some Jvm.ClassFile.FieldType.int)).before args0 about1 = true := code_word (m := ⟨18, 1⟩) (meth := k18m1) (c := k18c1) (by decide +kernel) rfl rfl rfl (by decide +kernel)
set_option maxRecDepth 65536 in
theorem w_c23 : (Jvm.Cond.code ({ cls := "jdk/internal/util/Preconditions", name := "checkIndex", desc := "(IILjava/util/function/BiFunction;)I" } : Jvm.MethodName) jdk_41_method_11_code (3 : Nat) (Option.some Jvm.ClassFile.FieldType.int)).before args0 about1 = true := code_word (m := ⟨19, 1⟩) (meth := k19m1) (c := k19c1) (by decide +kernel) rfl rfl rfl (by decide +kernel)
set_option maxRecDepth 65536 in
theorem w_c24 : (Jvm.Cond.code ({ cls := "java/util/ArrayList", name := "elementData", desc := "(I)Ljava/lang/Object;" } : Jvm.MethodName) jdk_38_method_18_code (2 : Nat) (Option.some (Jvm.ClassFile.FieldType.object "java/lang/Object"))).before args0 about1 = true := code_word (m := ⟨14, 4⟩) (meth := k14m4) (c := k14c4) (by decide +kernel) rfl rfl rfl (by decide +kernel)
set_option maxRecDepth 65536 in
theorem w_c25 : (Jvm.Cond.code ({ cls := "com/example/shortlist/shortlist/SelectionMeasures$Row", name := "r", desc := "()D" } : Jvm.MethodName) prog_42_method_6_code (1 : Nat) (Option.some Jvm.ClassFile.FieldType.double)).before args0 about1 = true := code_word (m := ⟨16, 1⟩) (meth := k16m1) (c := k16c1) (by decide +kernel) rfl rfl rfl (by decide +kernel)
set_option maxRecDepth 65536 in
theorem w_c26 : (Jvm.Cond.code ({ cls := "com/example/shortlist/shortlist/SelectionMeasures$Row", name := "rHat", desc := "()D" } : Jvm.MethodName) prog_42_method_7_code (1 : Nat) (Option.some Jvm.ClassFile.FieldType.double)).before args0 about1 = true := code_word (m := ⟨16, 2⟩) (meth := k16m2) (c := k16c2) (by decide +kernel) rfl rfl rfl (by decide +kernel)
set_option maxRecDepth 65536 in
theorem w_c27 : (Jvm.Cond.code ({ cls := "com/example/shortlist/shortlist/SelectionMeasures$Row", name := "p", desc := "()D" } : Jvm.MethodName) prog_42_method_8_code (1 : Nat) (Option.some Jvm.ClassFile.FieldType.double)).before args0 about1 = true := code_word (m := ⟨16, 3⟩) (meth := k16m3) (c := k16c3) (by decide +kernel) rfl rfl rfl (by decide +kernel)
set_option maxRecDepth 65536 in
theorem w_c28 : (Jvm.Cond.code ({ cls := "com/example/shortlist/shortlist/SelectionMeasures$Row", name := "cp", desc := "()D" } : Jvm.MethodName) prog_42_method_11_code (1 : Nat) (Option.some Jvm.ClassFile.FieldType.double)).before args0 about1 = true := code_word (m := ⟨16, 6⟩) (meth := k16m6) (c := k16c6) (by decide +kernel) rfl rfl rfl (by decide +kernel)
set_option maxRecDepth 65536 in
theorem w_c29 : (Jvm.Cond.code ({ cls := "com/example/shortlist/shortlist/SelectionMeasures$Row", name := "accuracy", desc := "()D" } : Jvm.MethodName) prog_42_method_9_code (1 : Nat) (Option.some Jvm.ClassFile.FieldType.double)).before args0 about1 = true := code_word (m := ⟨16, 4⟩) (meth := k16m4) (c := k16c4) (by decide +kernel) rfl rfl rfl (by decide +kernel)
set_option maxRecDepth 65536 in
theorem w_c30 : (Jvm.Cond.code ({ cls := "com/example/shortlist/shortlist/SelectionMeasures$Row", name := "share", desc := "()D" } : Jvm.MethodName) prog_42_method_10_code (1 : Nat) (Option.some Jvm.ClassFile.FieldType.double)).before args0 about1 = true := code_word (m := ⟨16, 5⟩) (meth := k16m5) (c := k16c5) (by decide +kernel) rfl rfl rfl (by decide +kernel)
def codes1 : List Jvm.Cond := [Jvm.Cond.code x code maxLocals ret, Jvm.Cond.code ({ cls := "com/example/shortlist/shortlist/SelectionMeasures", name := "<init>", desc := "(I)V" } : Jvm.MethodName) prog_41_method_1_code (2 : Nat) (Option.none : Option Jvm.ClassFile.FieldType), Jvm.Cond.code ({ cls := "java/lang/Object", name := "<init>", desc := "()V" } : Jvm.MethodName) object_method_1_code (1 : Nat) (Option.none : Option Jvm.ClassFile.FieldType), Jvm.Cond.code ({ cls := "com/example/shortlist/shortlist/SelectionMeasures", name := "add", desc := "([I[I)V" } : Jvm.MethodName) prog_41_method_2_code (16 : Nat) (Option.none : Option Jvm.ClassFile.FieldType), Jvm.Cond.code ({ cls := "com/example/shortlist/shortlist/SelectionMeasures", name := "sum", desc := "([I)J" } : Jvm.MethodName) prog_41_method_6_code (7 : Nat) (Option.some Jvm.ClassFile.FieldType.long), Jvm.Cond.code ({ cls := "java/util/Arrays", name := "sort", desc := "([I)V" } : Jvm.MethodName) jdk_65_method_2_code (1 : Nat) (Option.none : Option Jvm.ClassFile.FieldType), Jvm.Cond.code ({ cls := "java/util/DualPivotQuicksort", name := "sort", desc := "([IIII)V" } : Jvm.MethodName) jdk_2529_method_3_code (7 : Nat) (Option.none : Option Jvm.ClassFile.FieldType), Jvm.Cond.code ({ cls := "java/util/DualPivotQuicksort", name := "sort", desc := "(Ljava/util/DualPivotQuicksort$Sorter;[IIII)V" } : Jvm.MethodName) jdk_2529_method_4_code (21 : Nat) (Option.none : Option Jvm.ClassFile.FieldType), Jvm.Cond.code ({ cls := "java/util/DualPivotQuicksort", name := "insertionSort", desc := "([III)V" } : Jvm.MethodName) jdk_2529_method_6_code (6 : Nat) (Option.none : Option Jvm.ClassFile.FieldType), Jvm.Cond.code ({ cls := "com/example/shortlist/shortlist/SelectionMeasures", name := "rows", desc := "()Ljava/util/List;" } : Jvm.MethodName) prog_41_method_5_code (3 : Nat) (Option.some (Jvm.ClassFile.FieldType.object "java/util/List")), Jvm.Cond.code ({ cls := "java/util/ArrayList", name := "<init>", desc := "()V" } : Jvm.MethodName) jdk_38_method_2_code (1 : Nat) (Option.none : Option Jvm.ClassFile.FieldType), Jvm.Cond.code ({ cls := "java/util/AbstractList", name := "<init>", desc := "()V" } : Jvm.MethodName) jdk_39_method_1_code (1 : Nat) (Option.none : Option Jvm.ClassFile.FieldType), Jvm.Cond.code ({ cls := "java/util/AbstractCollection", name := "<init>", desc := "()V" } : Jvm.MethodName) jdk_22_method_1_code (1 : Nat) (Option.none : Option Jvm.ClassFile.FieldType), Jvm.Cond.code ({ cls := "com/example/shortlist/shortlist/SelectionMeasures$Row", name := "<init>", desc := "(IDDDDDD)V" } : Jvm.MethodName) prog_42_method_1_code (14 : Nat) (Option.none : Option Jvm.ClassFile.FieldType), Jvm.Cond.code ({ cls := "java/lang/Record", name := "<init>", desc := "()V" } : Jvm.MethodName) jdk_30_method_1_code (1 : Nat) (Option.none : Option Jvm.ClassFile.FieldType), Jvm.Cond.code ({ cls := "java/util/ArrayList", name := "add", desc := "(Ljava/lang/Object;)Z" } : Jvm.MethodName) jdk_38_method_25_code (2 : Nat) (Option.some Jvm.ClassFile.FieldType.boolean), Jvm.Cond.code ({ cls := "java/util/ArrayList", name := "add", desc := "(Ljava/lang/Object;[Ljava/lang/Object;I)V" } : Jvm.MethodName) jdk_38_method_24_code (4 : Nat) (Option.none : Option Jvm.ClassFile.FieldType), Jvm.Cond.code ({ cls := "java/util/ArrayList", name := "grow", desc := "()[Ljava/lang/Object;" } : Jvm.MethodName) jdk_38_method_7_code (1 : Nat) (Option.some (Jvm.ClassFile.FieldType.array (Jvm.ClassFile.FieldType.object "java/lang/Object"))), Jvm.Cond.code ({ cls := "java/util/ArrayList", name := "grow", desc := "(I)[Ljava/lang/Object;" } : Jvm.MethodName) jdk_38_method_6_code (4 : Nat) (Option.some (Jvm.ClassFile.FieldType.array (Jvm.ClassFile.FieldType.object "java/lang/Object"))), Jvm.Cond.code ({ cls := "java/lang/Math", name := "max", desc := "(II)I" } : Jvm.MethodName) jdk_29_method_65_code (2 : Nat) (Option.some Jvm.ClassFile.FieldType.int), Jvm.Cond.code ({ cls := "java/util/ArrayList", name := "size", desc := "()I" } : Jvm.MethodName) jdk_38_method_8_code (1 : Nat) (Option.some Jvm.ClassFile.FieldType.int), Jvm.Cond.code ({ cls := "java/util/ArrayList", name := "get", desc := "(I)Ljava/lang/Object;" } : Jvm.MethodName) jdk_38_method_20_code (2 : Nat) (Option.some (Jvm.ClassFile.FieldType.object "java/lang/Object")), Jvm.Cond.code ({ cls := "java/util/Objects", name := "checkIndex", desc := "(II)I" } : Jvm.MethodName) jdk_31_method_17_code (2 : Nat) (Option.some Jvm.ClassFile.FieldType.int), Jvm.Cond.code ({ cls := "jdk/internal/util/Preconditions", name := "checkIndex", desc := "(IILjava/util/function/BiFunction;)I" } : Jvm.MethodName) jdk_41_method_11_code (3 : Nat) (Option.some Jvm.ClassFile.FieldType.int), Jvm.Cond.code ({ cls := "java/util/ArrayList", name := "elementData", desc := "(I)Ljava/lang/Object;" } : Jvm.MethodName) jdk_38_method_18_code (2 : Nat) (Option.some (Jvm.ClassFile.FieldType.object "java/lang/Object")), Jvm.Cond.code ({ cls := "com/example/shortlist/shortlist/SelectionMeasures$Row", name := "r", desc := "()D" } : Jvm.MethodName) prog_42_method_6_code (1 : Nat) (Option.some Jvm.ClassFile.FieldType.double), Jvm.Cond.code ({ cls := "com/example/shortlist/shortlist/SelectionMeasures$Row", name := "rHat", desc := "()D" } : Jvm.MethodName) prog_42_method_7_code (1 : Nat) (Option.some Jvm.ClassFile.FieldType.double), Jvm.Cond.code ({ cls := "com/example/shortlist/shortlist/SelectionMeasures$Row", name := "p", desc := "()D" } : Jvm.MethodName) prog_42_method_8_code (1 : Nat) (Option.some Jvm.ClassFile.FieldType.double), Jvm.Cond.code ({ cls := "com/example/shortlist/shortlist/SelectionMeasures$Row", name := "cp", desc := "()D" } : Jvm.MethodName) prog_42_method_11_code (1 : Nat) (Option.some Jvm.ClassFile.FieldType.double), Jvm.Cond.code ({ cls := "com/example/shortlist/shortlist/SelectionMeasures$Row", name := "accuracy", desc := "()D" } : Jvm.MethodName) prog_42_method_9_code (1 : Nat) (Option.some Jvm.ClassFile.FieldType.double), Jvm.Cond.code ({ cls := "com/example/shortlist/shortlist/SelectionMeasures$Row", name := "share", desc := "()D" } : Jvm.MethodName) prog_42_method_10_code (1 : Nat) (Option.some Jvm.ClassFile.FieldType.double)]
set_option maxRecDepth 65536 in
theorem codes_eq : words1.filter isCode = codes1 := rfl
theorem w_codes : ∀ c ∈ words1.filter isCode, c.before args0 about1 = true := by
  rw [codes_eq]
  intro c hc
  simp only [codes1, List.mem_cons, List.not_mem_nil, or_false] at hc
  rcases hc with rfl | rfl | rfl | rfl | rfl | rfl | rfl | rfl | rfl | rfl | rfl | rfl | rfl | rfl | rfl | rfl | rfl | rfl | rfl | rfl | rfl | rfl | rfl | rfl | rfl | rfl | rfl | rfl | rfl | rfl | rfl
  · exact w_c0
  · exact w_c1
  · exact w_c2
  · exact w_c3
  · exact w_c4
  · exact w_c5
  · exact w_c6
  · exact w_c7
  · exact w_c8
  · exact w_c9
  · exact w_c10
  · exact w_c11
  · exact w_c12
  · exact w_c13
  · exact w_c14
  · exact w_c15
  · exact w_c16
  · exact w_c17
  · exact w_c18
  · exact w_c19
  · exact w_c20
  · exact w_c21
  · exact w_c22
  · exact w_c23
  · exact w_c24
  · exact w_c25
  · exact w_c26
  · exact w_c27
  · exact w_c28
  · exact w_c29
  · exact w_c30
set_option maxRecDepth 65536 in
theorem w_t1 : (words1.take 24).all (fun c => isCode c || c.before args0 about1) = true := by decide +kernel
set_option maxRecDepth 65536 in
theorem w_t2 : ((words1.drop 24).take 24).all (fun c => isCode c || c.before args0 about1) = true := by decide +kernel
set_option maxRecDepth 65536 in
theorem w_t3 : (((words1.drop 24).drop 24).take 24).all (fun c => isCode c || c.before args0 about1) = true := by decide +kernel
set_option maxRecDepth 65536 in
theorem w_t4 : ((((words1.drop 24).drop 24).drop 24).take 24).all (fun c => isCode c || c.before args0 about1) = true := by decide +kernel
set_option maxRecDepth 65536 in
theorem w_t5 : (((((words1.drop 24).drop 24).drop 24).drop 24).take 24).all (fun c => isCode c || c.before args0 about1) = true := by decide +kernel
set_option maxRecDepth 65536 in
theorem w_t6 : ((((((words1.drop 24).drop 24).drop 24).drop 24).drop 24).take 24).all (fun c => isCode c || c.before args0 about1) = true := by decide +kernel
set_option maxRecDepth 65536 in
theorem w_t7 : (((((((words1.drop 24).drop 24).drop 24).drop 24).drop 24).drop 24).take 24).all (fun c => isCode c || c.before args0 about1) = true := by decide +kernel
set_option maxRecDepth 65536 in
theorem w_t8 : ((((((((words1.drop 24).drop 24).drop 24).drop 24).drop 24).drop 24).drop 24).take 24).all (fun c => isCode c || c.before args0 about1) = true := by decide +kernel
set_option maxRecDepth 65536 in
theorem w_t9 : (((((((((words1.drop 24).drop 24).drop 24).drop 24).drop 24).drop 24).drop 24).drop 24).take 24).all (fun c => isCode c || c.before args0 about1) = true := by decide +kernel
set_option maxRecDepth 65536 in
theorem w_t10 : (((((((((words1.drop 24).drop 24).drop 24).drop 24).drop 24).drop 24).drop 24).drop 24).drop 24).all (fun c => isCode c || c.before args0 about1) = true := by decide +kernel
theorem w_tables : (allAtoms (Jvm.Cond.code x code maxLocals ret :: tables_1)).before args0 about1 = true := by
  rw [allAtoms_all]
  show words1.all (fun c => c.before args0 about1) = true
  refine all_split ?_ w_codes
  rw [← List.take_append_drop 24 words1, List.all_append, w_t1, ← List.take_append_drop 24 (words1.drop 24), List.all_append, w_t2, ← List.take_append_drop 24 ((words1.drop 24).drop 24), List.all_append, w_t3, ← List.take_append_drop 24 (((words1.drop 24).drop 24).drop 24), List.all_append, w_t4, ← List.take_append_drop 24 ((((words1.drop 24).drop 24).drop 24).drop 24), List.all_append, w_t5, ← List.take_append_drop 24 (((((words1.drop 24).drop 24).drop 24).drop 24).drop 24), List.all_append, w_t6, ← List.take_append_drop 24 ((((((words1.drop 24).drop 24).drop 24).drop 24).drop 24).drop 24), List.all_append, w_t7, ← List.take_append_drop 24 (((((((words1.drop 24).drop 24).drop 24).drop 24).drop 24).drop 24).drop 24), List.all_append, w_t8, ← List.take_append_drop 24 ((((((((words1.drop 24).drop 24).drop 24).drop 24).drop 24).drop 24).drop 24).drop 24), List.all_append, w_t9, w_t10]
  rfl
set_option maxRecDepth 65536 in
theorem w_rest : rest_1_c.before args0 about1 = true := by decide +kernel
set_option maxRecDepth 65536 in
theorem w_case : (Jvm.Cond.and given_1 narrow_1).before args0 about1 = true := by decide +kernel
theorem w_applies : (headSpec (Jvm.Cond.code x code maxLocals ret :: tables_1) room_1).applies x e0.platform about1 = true :=
  (Spec.applies_iff w_frames).mpr ⟨w_running, w_runnable, w_alone, w_named, w_hears, w_ripe, w_room, w_tables⟩
theorem atStart : AtStart classFile x code maxLocals ret World_1 tables_1 room_1 Calls_1 rest_1 Pre_1 launch0 p0 e0 about1 theMethod args0 below0 :=
  ⟨lists_1, trivial, launch0.admits_env _ _ _, launch0.least_env, fairChoices_fair.cas, fairChoices_fair.clock, w_frames, w_args, w_heap, w_applies, trivial, w_rest, w_case⟩
end start1
theorem witness_1 : WitnessClaimed_1 := ⟨start1.p0, start1.e0, start1.about1, start1.theMethod, start1.args0, start1.below0, start1.atStart⟩
end Jvm.Pilot.@@N@@
