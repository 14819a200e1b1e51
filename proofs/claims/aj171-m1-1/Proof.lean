import JvmDerived
import JvmDerived.Pilot.@@N@@Statement
import JvmDerived.Pilot.@@N@@Code
set_option linter.unusedVariables false
set_option linter.unusedSimpArgs false
namespace Jvm.Pilot.@@N@@
open Jvm Jvm.ClassFile Sem Op Lib Jvm.Free Jvm.Stand Jvm.LawKit Jvm.RoadKit Bundle Jvm.Pilot.@@N@@.Jvm.D

section OwnF
open Jvm.FP.Core
theorem own_pow {c d A B : Nat} {q r : Int} (ea : c * 2 ^ q.toNat = A * 2 ^ (-q).toNat) (eb : d * 2 ^ r.toNat = B * 2 ^ (-r).toNat) : c * B * 2 ^ ((q - r) - 0).toNat = A * d * 2 ^ (0 - (q - r)).toNat := by
  have hx : (q - r - 0).toNat + (-q).toNat + r.toNat = (0 - (q - r)).toNat + q.toNat + (-r).toNat := by omega
  generalize (q - r - 0).toNat = u at *
  generalize (0 - (q - r)).toNat = v at *
  generalize q.toNat = q1 at *
  generalize (-q).toNat = q2 at *
  generalize r.toNat = r1 at *
  generalize (-r).toNat = r2 at *
  have hp : 0 < 2 ^ q1 * 2 ^ r2 := Nat.mul_pos (Nat.two_pow_pos _) (Nat.two_pow_pos _)
  apply Nat.eq_of_mul_eq_mul_right hp
  have e1 : c * B * 2 ^ u * (2 ^ q1 * 2 ^ r2) = (c * 2 ^ q1) * (B * 2 ^ r2) * 2 ^ u := by
    simp only [Nat.mul_assoc, Nat.mul_comm, Nat.mul_left_comm]
  have e2 : A * d * 2 ^ v * (2 ^ q1 * 2 ^ r2) = A * d * 2 ^ (v + q1 + r2) := by
    rw [Nat.pow_add, Nat.pow_add]; simp only [Nat.mul_assoc]
  have e3 : A * 2 ^ q2 * (d * 2 ^ r1) * 2 ^ u = A * d * 2 ^ (u + q2 + r1) := by
    rw [Nat.pow_add, Nat.pow_add]; simp only [Nat.mul_assoc, Nat.mul_comm, Nat.mul_left_comm]
  rw [e1, e2, ea, ← eb, e3, hx]
theorem own_div {a b : Int64} (ha : Small53 a) (hb : Small53 b) (h0 : 0 < b.toInt) : val64 (FP.ddiv (FP.l2d a) (FP.l2d b)) = roundRatio b64 (decide (a.toInt < 0)) a.toInt.natAbs b.toInt.natAbs 0 := by
  obtain ⟨c, q, hc⟩ := l2d_shape a
  obtain ⟨d, r, hd⟩ := l2d_shape b
  have wa := l2d_whole ha
  have wb := l2d_whole hb
  rw [hc] at wa
  rw [hd] at wb
  have d0 : ¬ d = 0 := fun z => by have := (whole_zero wb).mp z; omega
  have e := val64_ddiv (FP.l2d a) (FP.l2d b)
  rw [show val64 (FP.l2d a) = _ from hc, show val64 (FP.l2d b) = _ from hd] at e
  refine e.trans ?_
  show (if d = 0 then (if c = 0 then Datum.nan else .inf _) else roundRatio b64 _ c d (q - r)) = _
  rw [if_neg d0]
  have hs : (decide (a.toInt < 0) != decide (b.toInt < 0)) = decide (a.toInt < 0) := by
    rw [show decide (b.toInt < 0) = false from decide_eq_false (by omega)]; simp
  rw [hs]
  exact roundRatio_congr (Nat.pos_of_ne_zero d0) (by omega) (own_pow (whole_natAbs wa) (whole_natAbs wb))
theorem own_i2d (x : Int32) : val64 (FP.i2d x) = roundRatio b64 (decide (x.toInt < 0)) x.toInt.natAbs 1 0 := val64_i2d x
theorem own_i2d_whole (x : Int32) : Whole x.toInt (val64 (FP.i2d x)) := by
  rw [show FP.i2d x = FP.l2d x.toInt64 from i2d_l2d x]
  have h := l2d_whole (a := x.toInt64) ⟨by rw [Int32.toInt_toInt64]; have := x.le_toInt; omega, by rw [Int32.toInt_toInt64]; have := x.toInt_lt; omega⟩
  rw [Int32.toInt_toInt64] at h; exact h
theorem own_v05 : val64 4602678819172646912 = .fin false (2 ^ 52) (-53) := by decide +kernel
theorem own_half (x : Int32) : val64 (FP.dadd (FP.i2d x) 4602678819172646912) = roundRatio b64 (decide (2 * x.toInt + 1 < 0)) (2 * x.toInt + 1).natAbs 1 (-1) := by
  have w := own_i2d_whole x
  have e := val64_dadd (FP.i2d x) 4602678819172646912
  refine e.trans ?_
  rw [own_v05]
  generalize val64 (FP.i2d x) = y at w
  cases y with
  | nan => exact w.elim
  | inf => exact w.elim
  | fin s c q =>
    have hm1 : min q (-53) ≤ q := Int.min_le_left _ _
    have hm2 : min q (-53) ≤ -53 := Int.min_le_right _ _
    show round b64 (.fin (sumSign s false (sumUnits s c q false (2 ^ 52) (-53) (min q (-53)))) (sumUnits s c q false (2 ^ 52) (-53) (min q (-53))).natAbs (min q (-53))) = _
    have u := whole_units w hm1
    generalize min q (-53) = m at *
    have hv : sumUnits s c q false (2 ^ 52) (-53) m = (2 * x.toInt + 1) * ((2 ^ (-1 - m).toNat : Nat) : Int) := by
      have z : m.toNat = 0 := by omega
      rw [z] at u
      have hD : (-m).toNat = (-1 - m).toNat + 1 := by omega
      rw [hD] at u
      have e2 : inUnits (2 ^ 52) (-53) m = 2 ^ (-1 - m).toNat := by
        show 2 ^ 52 * 2 ^ (-53 - m).toNat = _
        rw [← Nat.pow_add]; congr 1; omega
      show signed s (inUnits c q m) + signed false (inUnits (2 ^ 52) (-53) m) = _
      rw [e2]
      show _ + ((2 ^ (-1 - m).toNat : Nat) : Int) = _
      rw [Nat.pow_succ] at u
      generalize 2 ^ (-1 - m).toNat = D at *
      have u' : signed s (inUnits c q m) = x.toInt * ((D : Int) * 2) := by
        have := u; rw [Int.natCast_mul] at this; simpa using this
      rw [Int.add_mul, Int.one_mul, Int.mul_assoc, u']
      have : x.toInt * ((D : Int) * 2) = 2 * (x.toInt * (D : Int)) := by
        rw [← Int.mul_assoc, Int.mul_comm]
      omega
    have hpos : (0 : Int) < ((2 ^ (-1 - m).toNat : Nat) : Int) := by have := Nat.two_pow_pos (-1 - m).toNat; omega
    rw [hv]
    have hne : ¬ ((2 * x.toInt + 1) * ((2 ^ (-1 - m).toNat : Nat) : Int) = 0) := by
      intro h
      rcases Int.mul_eq_zero.mp h with h | h <;> omega
    have hsg : sumSign s false ((2 * x.toInt + 1) * ((2 ^ (-1 - m).toNat : Nat) : Int)) = decide (2 * x.toInt + 1 < 0) := by
      unfold sumSign
      rw [if_neg hne]
      apply decide_eq_decide.mpr
      constructor
      · intro h
        apply Int.lt_of_not_ge
        intro h2
        have := Int.mul_nonneg h2 (Int.le_of_lt hpos)
        omega
      · intro h
        exact Int.mul_neg_of_neg_of_pos h hpos
    rw [hsg]
    show roundRatio b64 _ _ 1 m = _
    refine roundRatio_congr (by decide) (by decide) ?_
    rw [Int.natAbs_mul, Int.natAbs_natCast, show (m - -1).toNat = 0 by omega]
    simp
theorem own_nn {x : UInt64} {s : Bool} {A B : Nat} {e : Int} (h : val64 x = roundRatio b64 s A B e) : Jvm.Free.Fl.NoNaN64 x := Jvm.Free.Fl.noNaN64_no.mpr ((notNaN_iff x).mpr (by rw [h]; exact roundRatio_ne_nan _ _ _ _ _))
theorem own_eq0 {x y : UInt64} {s : Bool} {A B : Nat} {e : Int} (hx : val64 x = roundRatio b64 s A B e) (hy : val64 y = roundRatio b64 s A B e) (o : ClassFile.CmpOp) : cmpValue (FP.dcmp x y) o = 0 :=
  dcmpV_eq (val64_inj (by rw [hx]; exact roundRatio_ne_nan _ _ _ _ _) (hx.trans hy.symm)) (own_nn hx) o
end OwnF
theorem own_mulb {q w : Int} (h1 : -2147483648 ≤ q) (h2 : q ≤ 2147483648) (h3 : 0 ≤ w) (h4 : w ≤ 2097152) : -4503599627370496 ≤ q * w ∧ q * w ≤ 4503599627370496 := by
  have a := Int.mul_le_mul_of_nonneg_right h2 h3
  have b := Int.mul_le_mul_of_nonneg_right h1 h3
  omega
section OwnG
open Jvm.FP.Core
theorem own_cpu0 (a : Int64) (q : Int32) : val64 (FP.ddiv (FP.l2d ((q.toInt64 * ((2 : Int64) * ((a &&& (1048575 : Int64)) + (1 : Int64)))) + (0 : Int64))) (FP.l2d ((2 : Int64) * ((a &&& (1048575 : Int64)) + (1 : Int64))))) = roundRatio b64 (decide (q.toInt < 0)) q.toInt.natAbs 1 0 := by
  have h1 := c_maskL a 1048575 20 (by decide) (by decide)
  have h2 := c_ladd (a &&& (1048575 : Int64)) (1 : Int64)
  have h3 := rng64 ((a &&& (1048575 : Int64)) + (1 : Int64))
  have h4 : (1 : Int64).toInt = 1 := rfl
  have h5 : (2 : Int64).toInt = 2 := rfl
  have hh : 1 ≤ ((a &&& (1048575 : Int64)) + (1 : Int64)).toInt ∧ ((a &&& (1048575 : Int64)) + (1 : Int64)).toInt ≤ 1048576 := by omega
  generalize ((a &&& (1048575 : Int64)) + (1 : Int64)) = h at *
  have h6 := c_lmul (2 : Int64) h
  have h7 := rng64 ((2 : Int64) * h)
  have hw : ((2 : Int64) * h).toInt = 2 * h.toInt := by rw [h5] at h6; omega
  have hq := rng32 q
  have h8 := c_lmul q.toInt64 ((2 : Int64) * h)
  have h9 := rng64 (q.toInt64 * ((2 : Int64) * h))
  have h10 := c_i2l q
  have hb := own_mulb (q := q.toInt) (w := 2 * h.toInt) (by omega) (by omega) (by omega) (by omega)
  have hc : (q.toInt64 * ((2 : Int64) * h)).toInt = q.toInt * (2 * h.toInt) := by rw [h10, hw] at h8; omega
  have h11 := c_ladd (q.toInt64 * ((2 : Int64) * h)) (0 : Int64)
  have h12 : (0 : Int64).toInt = 0 := rfl
  have h13 := rng64 ((q.toInt64 * ((2 : Int64) * h)) + (0 : Int64))
  have hd : ((q.toInt64 * ((2 : Int64) * h)) + (0 : Int64)).toInt = q.toInt * (2 * h.toInt) := by omega
  have e := own_div (a := ((q.toInt64 * ((2 : Int64) * h)) + (0 : Int64))) (b := (2 : Int64) * h) ⟨by omega, by omega⟩ ⟨by omega, by omega⟩ (by omega)
  rw [e, hd, hw]
  have hs : decide (q.toInt * (2 * h.toInt) < 0) = decide (q.toInt < 0) := by
    apply decide_eq_decide.mpr
    constructor
    · intro z
      apply Int.lt_of_not_ge
      intro z2
      have := Int.mul_nonneg z2 (show (0 : Int) ≤ 2 * h.toInt by omega)
      omega
    · intro z
      exact Int.mul_neg_of_neg_of_pos z (by omega)
  rw [hs]
  refine roundRatio_congr (by omega) (by decide) ?_
  rw [Int.natAbs_mul]
  simp
theorem own_cpu1 (a : Int64) (q : Int32) : val64 (FP.ddiv (FP.l2d ((q.toInt64 * ((2 : Int64) * ((a &&& (1048575 : Int64)) + (1 : Int64)))) + ((a &&& (1048575 : Int64)) + (1 : Int64)))) (FP.l2d ((2 : Int64) * ((a &&& (1048575 : Int64)) + (1 : Int64))))) = roundRatio b64 (decide (2 * q.toInt + 1 < 0)) (2 * q.toInt + 1).natAbs 1 (-1) := by
  have h1 := c_maskL a 1048575 20 (by decide) (by decide)
  have h2 := c_ladd (a &&& (1048575 : Int64)) (1 : Int64)
  have h3 := rng64 ((a &&& (1048575 : Int64)) + (1 : Int64))
  have h4 : (1 : Int64).toInt = 1 := rfl
  have h5 : (2 : Int64).toInt = 2 := rfl
  have hh : 1 ≤ ((a &&& (1048575 : Int64)) + (1 : Int64)).toInt ∧ ((a &&& (1048575 : Int64)) + (1 : Int64)).toInt ≤ 1048576 := by omega
  generalize ((a &&& (1048575 : Int64)) + (1 : Int64)) = h at *
  have h6 := c_lmul (2 : Int64) h
  have h7 := rng64 ((2 : Int64) * h)
  have hw : ((2 : Int64) * h).toInt = 2 * h.toInt := by rw [h5] at h6; omega
  have hq := rng32 q
  have h8 := c_lmul q.toInt64 ((2 : Int64) * h)
  have h9 := rng64 (q.toInt64 * ((2 : Int64) * h))
  have h10 := c_i2l q
  have hb := own_mulb (q := q.toInt) (w := 2 * h.toInt) (by omega) (by omega) (by omega) (by omega)
  have hc : (q.toInt64 * ((2 : Int64) * h)).toInt = q.toInt * (2 * h.toInt) := by rw [h10, hw] at h8; omega
  have h11 := c_ladd (q.toInt64 * ((2 : Int64) * h)) h
  have h13 := rng64 ((q.toInt64 * ((2 : Int64) * h)) + h)
  have hd : ((q.toInt64 * ((2 : Int64) * h)) + h).toInt = q.toInt * (2 * h.toInt) + h.toInt := by omega
  have hd2 : q.toInt * (2 * h.toInt) + h.toInt = (2 * q.toInt + 1) * h.toInt := by
    rw [Int.add_mul, Int.one_mul, Int.mul_left_comm, ← Int.mul_assoc]
  have e := own_div (a := ((q.toInt64 * ((2 : Int64) * h)) + h)) (b := (2 : Int64) * h) ⟨by omega, by omega⟩ ⟨by omega, by omega⟩ (by omega)
  rw [e, hd, hd2, hw]
  have hs : decide ((2 * q.toInt + 1) * h.toInt < 0) = decide (2 * q.toInt + 1 < 0) := by
    apply decide_eq_decide.mpr
    constructor
    · intro z
      apply Int.lt_of_not_ge
      intro z2
      have := Int.mul_nonneg z2 (show (0 : Int) ≤ h.toInt by omega)
      omega
    · intro z
      exact Int.mul_neg_of_neg_of_pos z (by omega)
  rw [hs]
  refine roundRatio_congr (by omega) (by decide) ?_
  rw [Int.natAbs_mul, Int.natAbs_mul]
  show _ * 1 * 2 ^ 1 = _ * _ * 2 ^ 0
  generalize (2 * q.toInt + 1).natAbs = A
  generalize h.toInt.natAbs = B
  show A * B * 1 * 2 = A * (2 * B) * 1
  rw [Nat.mul_one, Nat.mul_one, Nat.mul_assoc, Nat.mul_comm B 2]
theorem own_got0 (a : Int64) (q : Int32) : cmpValue (FP.dcmp (FP.ddiv (FP.l2d ((q.toInt64 * ((2 : Int64) * ((a &&& (1048575 : Int64)) + (1 : Int64)))) + (0 : Int64))) (FP.l2d ((2 : Int64) * ((a &&& (1048575 : Int64)) + (1 : Int64))))) (FP.i2d q)) .l = (0 : Int32) := own_eq0 (own_cpu0 a q) (own_i2d q) _
theorem own_got1 (a : Int64) (q : Int32) : cmpValue (FP.dcmp (FP.ddiv (FP.l2d ((q.toInt64 * ((2 : Int64) * ((a &&& (1048575 : Int64)) + (1 : Int64)))) + ((a &&& (1048575 : Int64)) + (1 : Int64)))) (FP.l2d ((2 : Int64) * ((a &&& (1048575 : Int64)) + (1 : Int64))))) (FP.dadd (FP.i2d q) (4602678819172646912 : UInt64))) .l = (0 : Int32) := own_eq0 (own_cpu1 a q) (own_half q) _
end OwnG
theorem d1_0 : decode prog_18_method_1_code 0 = .ok (.aload_n 0, 1) := by decide +kernel
theorem d1_1 : decode prog_18_method_1_code 1 = .ok (.invokespecial 1, 3) := by decide +kernel
theorem d2_0 : decode jdk_30_method_1_code 0 = .ok (.aload_n 0, 1) := by decide +kernel
theorem d2_1 : decode jdk_30_method_1_code 1 = .ok (.invokespecial 1, 3) := by decide +kernel
theorem d2_4 : decode jdk_30_method_1_code 4 = .ok (.return_, 1) := by decide +kernel
theorem pn_0 : plainName "java/lang/Record" = true := by first | (simp [plainName, overriddenIn]; done) | decide +kernel
theorem efinit2 (m : MethodId) (o0_ : Addr) : entryFrame m #[(.ref o0_)] 1 = mkF m 0 #[.val (.ref o0_)] [] := by first | (simp [entryFrame, mkF, argsToLocals, Value.category]; done) | rfl
def Qinit2 (Z : State) (o0_ : Addr) (h0 : Heap) (n0 : Nat) (v : Option Value) (h : Heap) (L : List Loc) : Prop := v = none ∧ Fr n0 L ∧ h = h0
set_option maxRecDepth 65536 in
set_option maxHeartbeats 40000000 in
theorem rminit2 (l : Launch) (Z : State) (a0 : Array Value) (hw : ∀ d ∈ tables_1, d.before a0 Z = true) (ws : List Jvm.Cond) (o0_ : Addr) (h0 : Heap) (n0 : Nat) (O0 : Old Z n0 h0) (P0 : Exa Z h0 o0_ "latchwork/cli/LockLoop$Round") (P1 : Fld Z h0 o0_ "latchwork/cli/LockLoop$Round" "wallNanos" "J" (.long (0 : Int64))) (P2 : Fld Z h0 o0_ "latchwork/cli/LockLoop$Round" "cpuNanos" "J" (.long (0 : Int64))) (P3 : Fld Z h0 o0_ "latchwork/cli/LockLoop$Round" "ops" "J" (.long (0 : Int64))) (P4 : Fld Z h0 o0_ "latchwork/cli/LockLoop$Round" "counted" "J" (.long (0 : Int64))) (P5 : Fld Z h0 o0_ "latchwork/cli/LockLoop$Round" "stranded" "I" (.int (0 : Int32))) :
    MetFree l (⟨"java/lang/Record", "<init>", "()V"⟩ : MethodName) (head1 (Jvm.Cond.code (⟨"java/lang/Record", "<init>", "()V"⟩ : MethodName) jdk_30_method_1_code 1 none :: ws) ({ frames := 1, cells := 0, slots := 0, locals := 12 } : Room)) (fun a U => a = #[(.ref o0_)] ∧ Z.Warmed39 U.vm ∧ U.heap = h0) (fun _ _ _ _ _ => True) (fun _ U o U' => ∃ v L, o = .returned v ∧ Qinit2 Z o0_ h0 n0 v U'.heap L ∧ FrameEnd U o U' L ({ frames := 1, cells := 0, slots := 0, locals := 12 } : Room).cells ({ frames := 1, cells := 0, slots := 0, locals := 12 } : Room).slots) := by
  refine MetFree.of_bodySF (plainFor_of_name pn_0) hisR ?_
  intro p e s m args below meth c s₁ Bd hml0 hP hK
  obtain ⟨rfl, hZ, hh⟩ := hP
  have hx := Bd.exec
  have hby := Bd.bytes
  have hml : c.maxLocals = 1 := hml0
  have hown : s.vm.findClass "java/lang/Record" = some m.cls := findClass_of_methodNamed Bd.named
  have hnm := (name_of_methodNamed Bd.named Bd.method).1
  have X0 : Stand p l e ({ frames := 1, cells := 0, slots := 0, locals := 12 } : Room) s m #[(.ref o0_)] below meth c s₁ [] 0 0 := Stand.of_body Bd
  have e0 : s₁.heap = h0 := by rw [← hh, Bd.state]; rfl
  have N0 := Fr.nil n0
  have pre0 : ∀ t, Steps p.tables e below (s₁.setTop (mkF m 0 #[.val (.ref o0_)] [])) t → Steps p.tables e below (s₁.setTop (entryFrame m #[(.ref o0_)] 1)) t := fun t k => castTop (efinit2 m o0_) k
  have K0 : Keep h0 h0 [] := Keep.refl _ _
  obtain ⟨T1, X1, e1, st1⟩ := initO X0 hx hZ hown (hw _ (List.mem_of_getElem? (i := 13) rfl)) (hw _ (List.mem_of_getElem? (i := 14) rfl)) (hw _ (List.mem_of_getElem? (i := 15) rfl)) e0 (g := (mkF m 1 #[.val (.ref o0_)] [(.ref o0_)])) rfl (by rw [hml]; rfl) rfl (hb hby d2_1) (by decide) (W := 0) (by show 2 * 0 + _ ≤ _; exact Nat.le_of_eq rfl) (by decide)
  have pre2 : ∀ t, Steps p.tables e below (T1.setTop (mkF m 4 #[.val (.ref o0_)] [])) t → Steps p.tables e below (s₁.setTop (entryFrame m #[(.ref o0_)] 1)) t := by
    intro t kt
    refine pre0 t ?_
    show Steps p.tables e below (s₁.setTop (mkF m 0 #[.val (.ref o0_)] [])) _
    refine XS.aloadN X0.here hx rfl (hb hby d2_0) rfl rfl ?_
    show Steps p.tables e below (s₁.setTop (mkF m 1 #[.val (.ref o0_)] [(.ref o0_)])) _
    refine st1 _ ?_
    exact kt
  obtain ⟨fs, hr, hrun, hended, hW, hsame⟩ := X1.leave (v := none) (fun _ => rfl)
  refine ⟨_, _, pre2 _ (X1.returnOut hx Bd.returns (hb hby d2_4) hr), hrun, hended, _, _, rfl, ?_, ⟨_, rfl⟩, hW, hsame.mono (by decide) (by decide)⟩
  show Qinit2 Z o0_ h0 n0 _ T1.heap _
  rw [e1]
  exact ⟨rfl, N0, rfl⟩
theorem pd_0 : parseMethodDescriptor "()V" = some ⟨[], none⟩ := by decide +kernel
theorem d1_4 : decode prog_18_method_1_code 4 = .ok (.aload_n 0, 1) := by decide +kernel
theorem d1_5 : decode prog_18_method_1_code 5 = .ok (.lload_n 1, 1) := by decide +kernel
theorem d1_6 : decode prog_18_method_1_code 6 = .ok (.putfield 7, 3) := by decide +kernel
theorem d1_9 : decode prog_18_method_1_code 9 = .ok (.aload_n 0, 1) := by decide +kernel
theorem d1_10 : decode prog_18_method_1_code 10 = .ok (.lload_n 3, 1) := by decide +kernel
theorem d1_11 : decode prog_18_method_1_code 11 = .ok (.putfield 13, 3) := by decide +kernel
theorem d1_14 : decode prog_18_method_1_code 14 = .ok (.aload_n 0, 1) := by decide +kernel
theorem d1_15 : decode prog_18_method_1_code 15 = .ok (.lload 5, 2) := by decide +kernel
theorem d1_17 : decode prog_18_method_1_code 17 = .ok (.putfield 16, 3) := by decide +kernel
theorem d1_20 : decode prog_18_method_1_code 20 = .ok (.aload_n 0, 1) := by decide +kernel
theorem d1_21 : decode prog_18_method_1_code 21 = .ok (.lload 7, 2) := by decide +kernel
theorem d1_23 : decode prog_18_method_1_code 23 = .ok (.putfield 19, 3) := by decide +kernel
theorem d1_26 : decode prog_18_method_1_code 26 = .ok (.aload_n 0, 1) := by decide +kernel
theorem d1_27 : decode prog_18_method_1_code 27 = .ok (.iload 9, 2) := by decide +kernel
theorem d1_29 : decode prog_18_method_1_code 29 = .ok (.putfield 22, 3) := by decide +kernel
theorem d1_32 : decode prog_18_method_1_code 32 = .ok (.return_, 1) := by decide +kernel
theorem pn_1 : plainName "latchwork/cli/LockLoop$Round" = true := by first | (simp [plainName, overriddenIn]; done) | decide +kernel
theorem efinit1 (m : MethodId) (o0_ : Addr) (y0_ : Int64) (y1_ : Int64) (y2_ : Int64) (y3_ : Int64) (x4_ : Int32) : entryFrame m #[(.ref o0_), (.long y0_), (.long y1_), (.long y2_), (.long y3_), (.int x4_)] 10 = mkF m 0 #[.val (.ref o0_), .val (.long y0_), .second, .val (.long y1_), .second, .val (.long y2_), .second, .val (.long y3_), .second, .val (.int x4_)] [] := by first | (simp [entryFrame, mkF, argsToLocals, Value.category]; done) | rfl
def Qinit1 (Z : State) (o0_ : Addr) (y0_ : Int64) (y1_ : Int64) (y2_ : Int64) (y3_ : Int64) (x4_ : Int32) (h0 : Heap) (n0 : Nat) (v : Option Value) (h : Heap) (L : List Loc) : Prop := v = none ∧ Fr n0 L ∧ Keep h0 h [o0_] ∧ Exa Z h o0_ "latchwork/cli/LockLoop$Round" ∧ Fld Z h o0_ "latchwork/cli/LockLoop$Round" "wallNanos" "J" (.long y0_) ∧ Fld Z h o0_ "latchwork/cli/LockLoop$Round" "cpuNanos" "J" (.long y1_) ∧ Fld Z h o0_ "latchwork/cli/LockLoop$Round" "ops" "J" (.long y2_) ∧ Fld Z h o0_ "latchwork/cli/LockLoop$Round" "counted" "J" (.long y3_) ∧ Fld Z h o0_ "latchwork/cli/LockLoop$Round" "stranded" "I" (.int x4_)
set_option maxRecDepth 65536 in
set_option maxHeartbeats 40000000 in
theorem rminit1 (l : Launch) (Z : State) (a0 : Array Value) (hw : ∀ d ∈ tables_1, d.before a0 Z = true) (ws : List Jvm.Cond) (o0_ : Addr) (y0_ : Int64) (y1_ : Int64) (y2_ : Int64) (y3_ : Int64) (x4_ : Int32) (h0 : Heap) (n0 : Nat) (O0 : Old Z n0 h0) (P0 : Exa Z h0 o0_ "latchwork/cli/LockLoop$Round") (P1 : Fld Z h0 o0_ "latchwork/cli/LockLoop$Round" "wallNanos" "J" (.long (0 : Int64))) (P2 : Fld Z h0 o0_ "latchwork/cli/LockLoop$Round" "cpuNanos" "J" (.long (0 : Int64))) (P3 : Fld Z h0 o0_ "latchwork/cli/LockLoop$Round" "ops" "J" (.long (0 : Int64))) (P4 : Fld Z h0 o0_ "latchwork/cli/LockLoop$Round" "counted" "J" (.long (0 : Int64))) (P5 : Fld Z h0 o0_ "latchwork/cli/LockLoop$Round" "stranded" "I" (.int (0 : Int32))) (P6 : n0 ≤ o0_) :
    MetFree l (⟨"latchwork/cli/LockLoop$Round", "<init>", "(JJJJI)V"⟩ : MethodName) (head1 (Jvm.Cond.code (⟨"latchwork/cli/LockLoop$Round", "<init>", "(JJJJI)V"⟩ : MethodName) prog_18_method_1_code 10 none :: ws) ({ frames := 2, cells := 0, slots := 0, locals := 24 } : Room)) (fun a U => a = #[(.ref o0_), (.long y0_), (.long y1_), (.long y2_), (.long y3_), (.int x4_)] ∧ Z.Warmed39 U.vm ∧ U.heap = h0) (fun _ _ _ _ _ => True) (fun _ U o U' => ∃ v L, o = .returned v ∧ Qinit1 Z o0_ y0_ y1_ y2_ y3_ x4_ h0 n0 v U'.heap L ∧ FrameEnd U o U' L ({ frames := 2, cells := 0, slots := 0, locals := 24 } : Room).cells ({ frames := 2, cells := 0, slots := 0, locals := 24 } : Room).slots) := by
  refine MetFree.of_bodySF (plainFor_of_name pn_1) hisR ?_
  intro p e s m args below meth c s₁ Bd hml0 hP hK
  obtain ⟨rfl, hZ, hh⟩ := hP
  have hx := Bd.exec
  have hby := Bd.bytes
  have hml : c.maxLocals = 10 := hml0
  have hown : s.vm.findClass "latchwork/cli/LockLoop$Round" = some m.cls := findClass_of_methodNamed Bd.named
  have hnm := (name_of_methodNamed Bd.named Bd.method).1
  have X0 : Stand p l e ({ frames := 2, cells := 0, slots := 0, locals := 24 } : Room) s m #[(.ref o0_), (.long y0_), (.long y1_), (.long y2_), (.long y3_), (.int x4_)] below meth c s₁ [] 0 0 := Stand.of_body Bd
  have e0 : s₁.heap = h0 := by rw [← hh, Bd.state]; rfl
  have N0 := Fr.nil n0
  have pre0 : ∀ t, Steps p.tables e below (s₁.setTop (mkF m 0 #[.val (.ref o0_), .val (.long y0_), .second, .val (.long y1_), .second, .val (.long y2_), .second, .val (.long y3_), .second, .val (.int x4_)] [])) t → Steps p.tables e below (s₁.setTop (entryFrame m #[(.ref o0_), (.long y0_), (.long y1_), (.long y2_), (.long y3_), (.int x4_)] 10)) t := fun t k => castTop (efinit1 m o0_ y0_ y1_ y2_ y3_ x4_) k
  have K0 : Keep h0 h0 [o0_] := Keep.refl _ _
  obtain ⟨_, _, ⟨T1, L1, k1, n1⟩, -, X1, ⟨Lc1, hQ1, l1, y1, z1⟩, st1⟩ := X0.specialBack hx (y := (⟨"java/lang/Record", "<init>", "()V"⟩ : MethodName)) rfl hown (mvT hZ (hw _ (List.mem_of_getElem? (i := 8) rfl))) (mvT hZ (hw _ (List.mem_of_getElem? (i := 9) rfl))) (mvT hZ (hw _ (List.mem_of_getElem? (i := 12) rfl))) (by decide) (backOf (W := 0) (rminit2 l Z a0 hw [] o0_ h0 n0 O0 P0 P1 P2 P3 P4 P5) hZ (hw _ (List.mem_of_getElem? (i := 12) rfl)) (hw _ (List.mem_of_getElem? (i := 11) rfl)) (by decide) (by decide)) (g := (mkF m 1 #[.val (.ref o0_), .val (.long y0_), .second, .val (.long y1_), .second, .val (.long y2_), .second, .val (.long y3_), .second, .val (.int x4_)] [(.ref o0_)])) rfl (by rw [hml]; rfl) (Steps.refl _) (a := o0_) (argsL := []) (rest := []) (lenOf pd_0 rfl) rfl (by show 2 * 0 + _ ≤ _; exact Nat.le_of_eq rfl) (hb hby d1_1) (fun _ _ => ⟨rfl, e0, (by decide : 0 + 0 ≤ _), (by decide : 0 + 0 ≤ _)⟩)
  dsimp only [Pt.U, Pt.locs, Pt.cells, Pt.slots] at X1 l1 y1 z1 st1 hQ1
  subst l1 y1 z1
  obtain ⟨h1, e1⟩ : ∃ z, T1.heap = z := ⟨_, rfl⟩
  rw [e1] at hQ1
  obtain ⟨rfl, N1q, hh1⟩ := hQ1
  have N2 := Fr.app N0 N1q
  have e1' : T1.heap = h0 := e1.trans hh1
  obtain ⟨T3, h3, X3, e3, W3, st3⟩ := putF X1 hx hZ hown (host := "") (Or.inl (hw _ (List.mem_of_getElem? (i := 16) rfl))) Via.refl e1' P1 P0 (Or.inr ⟨(hw _ (List.mem_of_getElem? (i := 17) rfl)), rfl, hnm⟩) (hw _ (List.mem_of_getElem? (i := 3) rfl)) (ty := .long) (by decide) rfl rfl (g := (mkF m 6 #[.val (.ref o0_), .val (.long y0_), .second, .val (.long y1_), .second, .val (.long y2_), .second, .val (.long y3_), .second, .val (.int x4_)] [(.long y0_), (.ref o0_)])) rfl rfl (hb hby d1_6)
  have N4 := Fr.snoc X3 N2 P6
  have f5 : Fld Z h3 o0_ "latchwork/cli/LockLoop$Round" "wallNanos" "J" (.long y0_) := P1.same W3
  have f6 : Fld Z h3 o0_ "latchwork/cli/LockLoop$Round" "cpuNanos" "J" (.long (0 : Int64)) := P2.other W3 (Or.inr (slot_ne (Or.inr (hw _ (List.mem_of_getElem? (i := 19) rfl))) (Or.inr (hw _ (List.mem_of_getElem? (i := 17) rfl))) (by decide) (t := .long) (t' := .long) (by decide) (by decide)))
  have f7 : Exa Z h3 o0_ "latchwork/cli/LockLoop$Round" := P0.wr W3
  obtain ⟨T8, h8, X8, e8, W8, st8⟩ := putF X3 hx hZ hown (host := "") (Or.inl (hw _ (List.mem_of_getElem? (i := 18) rfl))) Via.refl e3 f6 f7 (Or.inr ⟨(hw _ (List.mem_of_getElem? (i := 19) rfl)), rfl, hnm⟩) (hw _ (List.mem_of_getElem? (i := 3) rfl)) (ty := .long) (by decide) rfl rfl (g := (mkF m 11 #[.val (.ref o0_), .val (.long y0_), .second, .val (.long y1_), .second, .val (.long y2_), .second, .val (.long y3_), .second, .val (.int x4_)] [(.long y1_), (.ref o0_)])) rfl rfl (hb hby d1_11)
  have N9 := Fr.snoc X8 N4 P6
  have f10 : Fld Z h8 o0_ "latchwork/cli/LockLoop$Round" "cpuNanos" "J" (.long y1_) := f6.same W8
  have f11 : Fld Z h3 o0_ "latchwork/cli/LockLoop$Round" "ops" "J" (.long (0 : Int64)) := P3.other W3 (Or.inr (slot_ne (Or.inr (hw _ (List.mem_of_getElem? (i := 21) rfl))) (Or.inr (hw _ (List.mem_of_getElem? (i := 17) rfl))) (by decide) (t := .long) (t' := .long) (by decide) (by decide)))
  have f12 : Fld Z h8 o0_ "latchwork/cli/LockLoop$Round" "ops" "J" (.long (0 : Int64)) := f11.other W8 (Or.inr (slot_ne (Or.inr (hw _ (List.mem_of_getElem? (i := 21) rfl))) (Or.inr (hw _ (List.mem_of_getElem? (i := 19) rfl))) (by decide) (t := .long) (t' := .long) (by decide) (by decide)))
  have f13 : Exa Z h8 o0_ "latchwork/cli/LockLoop$Round" := f7.wr W8
  obtain ⟨T14, h14, X14, e14, W14, st14⟩ := putF X8 hx hZ hown (host := "") (Or.inl (hw _ (List.mem_of_getElem? (i := 20) rfl))) Via.refl e8 f12 f13 (Or.inr ⟨(hw _ (List.mem_of_getElem? (i := 21) rfl)), rfl, hnm⟩) (hw _ (List.mem_of_getElem? (i := 3) rfl)) (ty := .long) (by decide) rfl rfl (g := (mkF m 17 #[.val (.ref o0_), .val (.long y0_), .second, .val (.long y1_), .second, .val (.long y2_), .second, .val (.long y3_), .second, .val (.int x4_)] [(.long y2_), (.ref o0_)])) rfl rfl (hb hby d1_17)
  have N15 := Fr.snoc X14 N9 P6
  have f16 : Fld Z h14 o0_ "latchwork/cli/LockLoop$Round" "ops" "J" (.long y2_) := f12.same W14
  have f17 : Fld Z h3 o0_ "latchwork/cli/LockLoop$Round" "counted" "J" (.long (0 : Int64)) := P4.other W3 (Or.inr (slot_ne (Or.inr (hw _ (List.mem_of_getElem? (i := 23) rfl))) (Or.inr (hw _ (List.mem_of_getElem? (i := 17) rfl))) (by decide) (t := .long) (t' := .long) (by decide) (by decide)))
  have f18 : Fld Z h8 o0_ "latchwork/cli/LockLoop$Round" "counted" "J" (.long (0 : Int64)) := f17.other W8 (Or.inr (slot_ne (Or.inr (hw _ (List.mem_of_getElem? (i := 23) rfl))) (Or.inr (hw _ (List.mem_of_getElem? (i := 19) rfl))) (by decide) (t := .long) (t' := .long) (by decide) (by decide)))
  have f19 : Fld Z h14 o0_ "latchwork/cli/LockLoop$Round" "counted" "J" (.long (0 : Int64)) := f18.other W14 (Or.inr (slot_ne (Or.inr (hw _ (List.mem_of_getElem? (i := 23) rfl))) (Or.inr (hw _ (List.mem_of_getElem? (i := 21) rfl))) (by decide) (t := .long) (t' := .long) (by decide) (by decide)))
  have f20 : Exa Z h14 o0_ "latchwork/cli/LockLoop$Round" := f13.wr W14
  obtain ⟨T21, h21, X21, e21, W21, st21⟩ := putF X14 hx hZ hown (host := "") (Or.inl (hw _ (List.mem_of_getElem? (i := 22) rfl))) Via.refl e14 f19 f20 (Or.inr ⟨(hw _ (List.mem_of_getElem? (i := 23) rfl)), rfl, hnm⟩) (hw _ (List.mem_of_getElem? (i := 3) rfl)) (ty := .long) (by decide) rfl rfl (g := (mkF m 23 #[.val (.ref o0_), .val (.long y0_), .second, .val (.long y1_), .second, .val (.long y2_), .second, .val (.long y3_), .second, .val (.int x4_)] [(.long y3_), (.ref o0_)])) rfl rfl (hb hby d1_23)
  have N22 := Fr.snoc X21 N15 P6
  have f23 : Fld Z h21 o0_ "latchwork/cli/LockLoop$Round" "counted" "J" (.long y3_) := f19.same W21
  have f24 : Fld Z h3 o0_ "latchwork/cli/LockLoop$Round" "stranded" "I" (.int (0 : Int32)) := P5.other W3 (Or.inr (slot_ne (Or.inr (hw _ (List.mem_of_getElem? (i := 25) rfl))) (Or.inr (hw _ (List.mem_of_getElem? (i := 17) rfl))) (by decide) (t := .int) (t' := .long) (by decide) (by decide)))
  have f25 : Fld Z h8 o0_ "latchwork/cli/LockLoop$Round" "stranded" "I" (.int (0 : Int32)) := f24.other W8 (Or.inr (slot_ne (Or.inr (hw _ (List.mem_of_getElem? (i := 25) rfl))) (Or.inr (hw _ (List.mem_of_getElem? (i := 19) rfl))) (by decide) (t := .int) (t' := .long) (by decide) (by decide)))
  have f26 : Fld Z h14 o0_ "latchwork/cli/LockLoop$Round" "stranded" "I" (.int (0 : Int32)) := f25.other W14 (Or.inr (slot_ne (Or.inr (hw _ (List.mem_of_getElem? (i := 25) rfl))) (Or.inr (hw _ (List.mem_of_getElem? (i := 21) rfl))) (by decide) (t := .int) (t' := .long) (by decide) (by decide)))
  have f27 : Fld Z h21 o0_ "latchwork/cli/LockLoop$Round" "stranded" "I" (.int (0 : Int32)) := f26.other W21 (Or.inr (slot_ne (Or.inr (hw _ (List.mem_of_getElem? (i := 25) rfl))) (Or.inr (hw _ (List.mem_of_getElem? (i := 23) rfl))) (by decide) (t := .int) (t' := .long) (by decide) (by decide)))
  have f28 : Exa Z h21 o0_ "latchwork/cli/LockLoop$Round" := f20.wr W21
  obtain ⟨T29, h29, X29, e29, W29, st29⟩ := putF X21 hx hZ hown (host := "") (Or.inl (hw _ (List.mem_of_getElem? (i := 24) rfl))) Via.refl e21 f27 f28 (Or.inr ⟨(hw _ (List.mem_of_getElem? (i := 25) rfl)), rfl, hnm⟩) (hw _ (List.mem_of_getElem? (i := 3) rfl)) (ty := .int) (by decide) rfl rfl (g := (mkF m 29 #[.val (.ref o0_), .val (.long y0_), .second, .val (.long y1_), .second, .val (.long y2_), .second, .val (.long y3_), .second, .val (.int x4_)] [(.int x4_), (.ref o0_)])) rfl rfl (hb hby d1_29)
  have N30 := Fr.snoc X29 N22 P6
  have f31 : Fld Z h29 o0_ "latchwork/cli/LockLoop$Round" "stranded" "I" (.int x4_) := f27.same W29
  have pre32 : ∀ t, Steps p.tables e below (T29.setTop (mkF m 32 #[.val (.ref o0_), .val (.long y0_), .second, .val (.long y1_), .second, .val (.long y2_), .second, .val (.long y3_), .second, .val (.int x4_)] [])) t → Steps p.tables e below (s₁.setTop (entryFrame m #[(.ref o0_), (.long y0_), (.long y1_), (.long y2_), (.long y3_), (.int x4_)] 10)) t := by
    intro t kt
    refine pre0 t ?_
    show Steps p.tables e below (s₁.setTop (mkF m 0 #[.val (.ref o0_), .val (.long y0_), .second, .val (.long y1_), .second, .val (.long y2_), .second, .val (.long y3_), .second, .val (.int x4_)] [])) _
    refine XS.aloadN X0.here hx rfl (hb hby d1_0) rfl rfl ?_
    show Steps p.tables e below (s₁.setTop (mkF m 1 #[.val (.ref o0_), .val (.long y0_), .second, .val (.long y1_), .second, .val (.long y2_), .second, .val (.long y3_), .second, .val (.int x4_)] [(.ref o0_)])) _
    refine st1.trans ?_
    show Steps p.tables e below (T1.setTop (mkF m 4 #[.val (.ref o0_), .val (.long y0_), .second, .val (.long y1_), .second, .val (.long y2_), .second, .val (.long y3_), .second, .val (.int x4_)] [])) _
    refine XS.aloadN X1.here hx rfl (hb hby d1_4) rfl rfl ?_
    show Steps p.tables e below (T1.setTop (mkF m 5 #[.val (.ref o0_), .val (.long y0_), .second, .val (.long y1_), .second, .val (.long y2_), .second, .val (.long y3_), .second, .val (.int x4_)] [(.ref o0_)])) _
    refine XS.lloadN X1.here hx rfl (hb hby d1_5) rfl ?_
    show Steps p.tables e below (T1.setTop (mkF m 6 #[.val (.ref o0_), .val (.long y0_), .second, .val (.long y1_), .second, .val (.long y2_), .second, .val (.long y3_), .second, .val (.int x4_)] [(.long y0_), (.ref o0_)])) _
    refine st3 _ ?_
    show Steps p.tables e below (T3.setTop (mkF m 9 #[.val (.ref o0_), .val (.long y0_), .second, .val (.long y1_), .second, .val (.long y2_), .second, .val (.long y3_), .second, .val (.int x4_)] [])) _
    refine XS.aloadN X3.here hx rfl (hb hby d1_9) rfl rfl ?_
    show Steps p.tables e below (T3.setTop (mkF m 10 #[.val (.ref o0_), .val (.long y0_), .second, .val (.long y1_), .second, .val (.long y2_), .second, .val (.long y3_), .second, .val (.int x4_)] [(.ref o0_)])) _
    refine XS.lloadN X3.here hx rfl (hb hby d1_10) rfl ?_
    show Steps p.tables e below (T3.setTop (mkF m 11 #[.val (.ref o0_), .val (.long y0_), .second, .val (.long y1_), .second, .val (.long y2_), .second, .val (.long y3_), .second, .val (.int x4_)] [(.long y1_), (.ref o0_)])) _
    refine st8 _ ?_
    show Steps p.tables e below (T8.setTop (mkF m 14 #[.val (.ref o0_), .val (.long y0_), .second, .val (.long y1_), .second, .val (.long y2_), .second, .val (.long y3_), .second, .val (.int x4_)] [])) _
    refine XS.aloadN X8.here hx rfl (hb hby d1_14) rfl rfl ?_
    show Steps p.tables e below (T8.setTop (mkF m 15 #[.val (.ref o0_), .val (.long y0_), .second, .val (.long y1_), .second, .val (.long y2_), .second, .val (.long y3_), .second, .val (.int x4_)] [(.ref o0_)])) _
    refine XS.lload X8.here hx rfl (hb hby d1_15) rfl ?_
    show Steps p.tables e below (T8.setTop (mkF m 17 #[.val (.ref o0_), .val (.long y0_), .second, .val (.long y1_), .second, .val (.long y2_), .second, .val (.long y3_), .second, .val (.int x4_)] [(.long y2_), (.ref o0_)])) _
    refine st14 _ ?_
    show Steps p.tables e below (T14.setTop (mkF m 20 #[.val (.ref o0_), .val (.long y0_), .second, .val (.long y1_), .second, .val (.long y2_), .second, .val (.long y3_), .second, .val (.int x4_)] [])) _
    refine XS.aloadN X14.here hx rfl (hb hby d1_20) rfl rfl ?_
    show Steps p.tables e below (T14.setTop (mkF m 21 #[.val (.ref o0_), .val (.long y0_), .second, .val (.long y1_), .second, .val (.long y2_), .second, .val (.long y3_), .second, .val (.int x4_)] [(.ref o0_)])) _
    refine XS.lload X14.here hx rfl (hb hby d1_21) rfl ?_
    show Steps p.tables e below (T14.setTop (mkF m 23 #[.val (.ref o0_), .val (.long y0_), .second, .val (.long y1_), .second, .val (.long y2_), .second, .val (.long y3_), .second, .val (.int x4_)] [(.long y3_), (.ref o0_)])) _
    refine st21 _ ?_
    show Steps p.tables e below (T21.setTop (mkF m 26 #[.val (.ref o0_), .val (.long y0_), .second, .val (.long y1_), .second, .val (.long y2_), .second, .val (.long y3_), .second, .val (.int x4_)] [])) _
    refine XS.aloadN X21.here hx rfl (hb hby d1_26) rfl rfl ?_
    show Steps p.tables e below (T21.setTop (mkF m 27 #[.val (.ref o0_), .val (.long y0_), .second, .val (.long y1_), .second, .val (.long y2_), .second, .val (.long y3_), .second, .val (.int x4_)] [(.ref o0_)])) _
    refine XS.iload X21.here hx rfl (hb hby d1_27) rfl ?_
    show Steps p.tables e below (T21.setTop (mkF m 29 #[.val (.ref o0_), .val (.long y0_), .second, .val (.long y1_), .second, .val (.long y2_), .second, .val (.long y3_), .second, .val (.int x4_)] [(.int x4_), (.ref o0_)])) _
    refine st29 _ ?_
    exact kt
  have f34 : Keep h0 h3 [o0_] := K0.wr W3 (Or.inl (List.mem_of_getElem? (i := 0) rfl))
  have f35 : Keep h0 h8 [o0_] := f34.wr W8 (Or.inl (List.mem_of_getElem? (i := 0) rfl))
  have f36 : Keep h0 h14 [o0_] := f35.wr W14 (Or.inl (List.mem_of_getElem? (i := 0) rfl))
  have f37 : Keep h0 h21 [o0_] := f36.wr W21 (Or.inl (List.mem_of_getElem? (i := 0) rfl))
  have f38 : Keep h0 h29 [o0_] := f37.wr W29 (Or.inl (List.mem_of_getElem? (i := 0) rfl))
  have f39 : Exa Z h29 o0_ "latchwork/cli/LockLoop$Round" := f28.wr W29
  have f40 : Fld Z h8 o0_ "latchwork/cli/LockLoop$Round" "wallNanos" "J" (.long y0_) := f5.other W8 (Or.inr (slot_ne (Or.inr (hw _ (List.mem_of_getElem? (i := 17) rfl))) (Or.inr (hw _ (List.mem_of_getElem? (i := 19) rfl))) (by decide) (t := .long) (t' := .long) (by decide) (by decide)))
  have f41 : Fld Z h14 o0_ "latchwork/cli/LockLoop$Round" "wallNanos" "J" (.long y0_) := f40.other W14 (Or.inr (slot_ne (Or.inr (hw _ (List.mem_of_getElem? (i := 17) rfl))) (Or.inr (hw _ (List.mem_of_getElem? (i := 21) rfl))) (by decide) (t := .long) (t' := .long) (by decide) (by decide)))
  have f42 : Fld Z h21 o0_ "latchwork/cli/LockLoop$Round" "wallNanos" "J" (.long y0_) := f41.other W21 (Or.inr (slot_ne (Or.inr (hw _ (List.mem_of_getElem? (i := 17) rfl))) (Or.inr (hw _ (List.mem_of_getElem? (i := 23) rfl))) (by decide) (t := .long) (t' := .long) (by decide) (by decide)))
  have f43 : Fld Z h29 o0_ "latchwork/cli/LockLoop$Round" "wallNanos" "J" (.long y0_) := f42.other W29 (Or.inr (slot_ne (Or.inr (hw _ (List.mem_of_getElem? (i := 17) rfl))) (Or.inr (hw _ (List.mem_of_getElem? (i := 25) rfl))) (by decide) (t := .long) (t' := .int) (by decide) (by decide)))
  have f44 : Fld Z h14 o0_ "latchwork/cli/LockLoop$Round" "cpuNanos" "J" (.long y1_) := f10.other W14 (Or.inr (slot_ne (Or.inr (hw _ (List.mem_of_getElem? (i := 19) rfl))) (Or.inr (hw _ (List.mem_of_getElem? (i := 21) rfl))) (by decide) (t := .long) (t' := .long) (by decide) (by decide)))
  have f45 : Fld Z h21 o0_ "latchwork/cli/LockLoop$Round" "cpuNanos" "J" (.long y1_) := f44.other W21 (Or.inr (slot_ne (Or.inr (hw _ (List.mem_of_getElem? (i := 19) rfl))) (Or.inr (hw _ (List.mem_of_getElem? (i := 23) rfl))) (by decide) (t := .long) (t' := .long) (by decide) (by decide)))
  have f46 : Fld Z h29 o0_ "latchwork/cli/LockLoop$Round" "cpuNanos" "J" (.long y1_) := f45.other W29 (Or.inr (slot_ne (Or.inr (hw _ (List.mem_of_getElem? (i := 19) rfl))) (Or.inr (hw _ (List.mem_of_getElem? (i := 25) rfl))) (by decide) (t := .long) (t' := .int) (by decide) (by decide)))
  have f47 : Fld Z h21 o0_ "latchwork/cli/LockLoop$Round" "ops" "J" (.long y2_) := f16.other W21 (Or.inr (slot_ne (Or.inr (hw _ (List.mem_of_getElem? (i := 21) rfl))) (Or.inr (hw _ (List.mem_of_getElem? (i := 23) rfl))) (by decide) (t := .long) (t' := .long) (by decide) (by decide)))
  have f48 : Fld Z h29 o0_ "latchwork/cli/LockLoop$Round" "ops" "J" (.long y2_) := f47.other W29 (Or.inr (slot_ne (Or.inr (hw _ (List.mem_of_getElem? (i := 21) rfl))) (Or.inr (hw _ (List.mem_of_getElem? (i := 25) rfl))) (by decide) (t := .long) (t' := .int) (by decide) (by decide)))
  have f49 : Fld Z h29 o0_ "latchwork/cli/LockLoop$Round" "counted" "J" (.long y3_) := f23.other W29 (Or.inr (slot_ne (Or.inr (hw _ (List.mem_of_getElem? (i := 23) rfl))) (Or.inr (hw _ (List.mem_of_getElem? (i := 25) rfl))) (by decide) (t := .long) (t' := .int) (by decide) (by decide)))
  obtain ⟨fs, hr, hrun, hended, hW, hsame⟩ := X29.leave (v := none) (fun _ => rfl)
  refine ⟨_, _, pre32 _ (X29.returnOut hx Bd.returns (hb hby d1_32) hr), hrun, hended, _, _, rfl, ?_, ⟨_, rfl⟩, hW, hsame.mono (by decide) (by decide)⟩
  show Qinit1 Z o0_ y0_ y1_ y2_ y3_ x4_ h0 n0 _ T29.heap _
  rw [e29]
  exact ⟨rfl, N30, f38, f39, f43, f46, f48, f49, f31⟩
theorem pd_1 : parseMethodDescriptor "(JJJJI)V" = some ⟨[.long, .long, .long, .long, .int], none⟩ := by decide +kernel
theorem d3_0 : decode prog_18_method_3_code 0 = .ok (.aload_n 0, 1) := by decide +kernel
theorem d3_1 : decode prog_18_method_3_code 1 = .ok (.getfield 13, 3) := by decide +kernel
theorem d3_4 : decode prog_18_method_3_code 4 = .ok (.l2d, 1) := by decide +kernel
theorem d3_5 : decode prog_18_method_3_code 5 = .ok (.aload_n 0, 1) := by decide +kernel
theorem d3_6 : decode prog_18_method_3_code 6 = .ok (.getfield 7, 3) := by decide +kernel
theorem d3_9 : decode prog_18_method_3_code 9 = .ok (.l2d, 1) := by decide +kernel
theorem d3_10 : decode prog_18_method_3_code 10 = .ok (.ddiv, 1) := by decide +kernel
theorem d3_11 : decode prog_18_method_3_code 11 = .ok (.dreturn, 1) := by decide +kernel
theorem efcpuPerWall3 (m : MethodId) (o0_ : Addr) : entryFrame m #[(.ref o0_)] 1 = mkF m 0 #[.val (.ref o0_)] [] := by first | (simp [entryFrame, mkF, argsToLocals, Value.category]; done) | rfl
def QcpuPerWall3 (Z : State) (o0_ : Addr) (y0_ : Int64) (y1_ : Int64) (y2_ : Int64) (y3_ : Int64) (x4_ : Int32) (h0 : Heap) (n0 : Nat) (v : Option Value) (h : Heap) (L : List Loc) : Prop := v = some (.double (FP.ddiv (FP.l2d y1_) (FP.l2d y0_))) ∧ Fr n0 L ∧ h = h0
set_option maxRecDepth 65536 in
set_option maxHeartbeats 40000000 in
theorem rmcpuPerWall3 (l : Launch) (Z : State) (a0 : Array Value) (hw : ∀ d ∈ tables_1, d.before a0 Z = true) (ws : List Jvm.Cond) (o0_ : Addr) (y0_ : Int64) (y1_ : Int64) (y2_ : Int64) (y3_ : Int64) (x4_ : Int32) (h0 : Heap) (n0 : Nat) (O0 : Old Z n0 h0) (ha0 : Jvm.Free.Fl.NoNaN64 (FP.ddiv (FP.l2d y1_) (FP.l2d y0_))) (P1 : Exa Z h0 o0_ "latchwork/cli/LockLoop$Round") (P2 : Fld Z h0 o0_ "latchwork/cli/LockLoop$Round" "wallNanos" "J" (.long y0_)) (P3 : Fld Z h0 o0_ "latchwork/cli/LockLoop$Round" "cpuNanos" "J" (.long y1_)) (P4 : Fld Z h0 o0_ "latchwork/cli/LockLoop$Round" "ops" "J" (.long y2_)) (P5 : Fld Z h0 o0_ "latchwork/cli/LockLoop$Round" "counted" "J" (.long y3_)) (P6 : Fld Z h0 o0_ "latchwork/cli/LockLoop$Round" "stranded" "I" (.int x4_)) :
    MetFree l (⟨"latchwork/cli/LockLoop$Round", "cpuPerWall", "()D"⟩ : MethodName) (head1 (Jvm.Cond.code (⟨"latchwork/cli/LockLoop$Round", "cpuPerWall", "()D"⟩ : MethodName) prog_18_method_3_code 1 (some .double) :: ws) ({ frames := 0, cells := 0, slots := 0, locals := 0 } : Room)) (fun a U => a = #[(.ref o0_)] ∧ Z.Warmed39 U.vm ∧ U.heap = h0) (fun _ _ _ _ _ => True) (fun _ U o U' => ∃ v L, o = .returned v ∧ QcpuPerWall3 Z o0_ y0_ y1_ y2_ y3_ x4_ h0 n0 v U'.heap L ∧ FrameEnd U o U' L ({ frames := 0, cells := 0, slots := 0, locals := 0 } : Room).cells ({ frames := 0, cells := 0, slots := 0, locals := 0 } : Room).slots) := by
  refine MetFree.of_bodySF (plainFor_of_name pn_1) hisR ?_
  intro p e s m args below meth c s₁ Bd hml0 hP hK
  obtain ⟨rfl, hZ, hh⟩ := hP
  have hx := Bd.exec
  have hby := Bd.bytes
  have hml : c.maxLocals = 1 := hml0
  have hown : s.vm.findClass "latchwork/cli/LockLoop$Round" = some m.cls := findClass_of_methodNamed Bd.named
  have hnm := (name_of_methodNamed Bd.named Bd.method).1
  have X0 : Stand p l e ({ frames := 0, cells := 0, slots := 0, locals := 0 } : Room) s m #[(.ref o0_)] below meth c s₁ [] 0 0 := Stand.of_body Bd
  have e0 : s₁.heap = h0 := by rw [← hh, Bd.state]; rfl
  have N0 := Fr.nil n0
  have pre0 : ∀ t, Steps p.tables e below (s₁.setTop (mkF m 0 #[.val (.ref o0_)] [])) t → Steps p.tables e below (s₁.setTop (entryFrame m #[(.ref o0_)] 1)) t := fun t k => castTop (efcpuPerWall3 m o0_) k
  have K0 : Keep h0 h0 [] := Keep.refl _ _
  obtain ⟨T1, X1, e1, st1⟩ := getF X0 hx hZ hown (host := "") (Or.inl (hw _ (List.mem_of_getElem? (i := 18) rfl))) Via.refl e0 P3 (g := (mkF m 1 #[.val (.ref o0_)] [(.ref o0_)])) rfl rfl (hb hby d3_1)
  obtain ⟨T2, X2, e2, st2⟩ := getF X1 hx hZ hown (host := "") (Or.inl (hw _ (List.mem_of_getElem? (i := 16) rfl))) Via.refl e1 P2 (g := (mkF m 6 #[.val (.ref o0_)] [(.ref o0_), (.double (FP.l2d y1_))])) rfl rfl (hb hby d3_6)
  have pre3 : ∀ t, Steps p.tables e below (T2.setTop (mkF m 11 #[.val (.ref o0_)] [(.double (FP.ddiv (FP.l2d y1_) (FP.l2d y0_)))])) t → Steps p.tables e below (s₁.setTop (entryFrame m #[(.ref o0_)] 1)) t := by
    intro t kt
    refine pre0 t ?_
    show Steps p.tables e below (s₁.setTop (mkF m 0 #[.val (.ref o0_)] [])) _
    refine XS.aloadN X0.here hx rfl (hb hby d3_0) rfl rfl ?_
    show Steps p.tables e below (s₁.setTop (mkF m 1 #[.val (.ref o0_)] [(.ref o0_)])) _
    refine st1 _ ?_
    show Steps p.tables e below (T1.setTop (mkF m 4 #[.val (.ref o0_)] [(.long y1_)])) _
    refine XS.l2dS X1.here hx rfl (hb hby d3_4) rfl rfl ?_
    show Steps p.tables e below (T1.setTop (mkF m 5 #[.val (.ref o0_)] [(.double (FP.l2d y1_))])) _
    refine XS.aloadN X1.here hx rfl (hb hby d3_5) rfl rfl ?_
    show Steps p.tables e below (T1.setTop (mkF m 6 #[.val (.ref o0_)] [(.ref o0_), (.double (FP.l2d y1_))])) _
    refine st2 _ ?_
    show Steps p.tables e below (T2.setTop (mkF m 9 #[.val (.ref o0_)] [(.long y0_), (.double (FP.l2d y1_))])) _
    refine XS.l2dS X2.here hx rfl (hb hby d3_9) rfl rfl ?_
    show Steps p.tables e below (T2.setTop (mkF m 10 #[.val (.ref o0_)] [(.double (FP.l2d y0_)), (.double (FP.l2d y1_))])) _
    refine XS.ddivS X2.here hx rfl (hb hby d3_10) rfl ha0 rfl ?_
    exact kt
  obtain ⟨fs, hr, hrun, hended, hW, hsame⟩ := X2.leave (v := some (.double (FP.ddiv (FP.l2d y1_) (FP.l2d y0_)))) (fun h => by rw [Bd.returns] at h; cases h)
  refine ⟨_, _, pre3 _ (retOut X2 hx Bd.returns rfl (Or.inr (Or.inr (Or.inl ⟨rfl, rfl, _, rfl⟩))) (hb hby d3_11) hr), hrun, hended, _, _, rfl, ?_, ⟨_, rfl⟩, hW, hsame.mono (by decide) (by decide)⟩
  show QcpuPerWall3 Z o0_ y0_ y1_ y2_ y3_ x4_ h0 n0 _ T2.heap _
  rw [e2]
  exact ⟨rfl, N0, rfl⟩
theorem pd_2 : parseMethodDescriptor "()D" = some ⟨[], some .double⟩ := by decide +kernel
theorem pn_2 : plainName "latchwork/cli/RoundCpuPerWallPinLaw" = true := by first | (simp [plainName, overriddenIn]; done) | decide +kernel
theorem efLaw (m : MethodId) (q0_ : Int64) (p1_ : Int32) (p2_ : Int32) (q3_ : Int64) (q4_ : Int64) (p5_ : Int32) : entryFrame m #[(.long q0_), (.int p1_), (.int p2_), (.long q3_), (.long q4_), (.int p5_)] maxLocals = mkF m 0 #[.val (.long q0_), .second, .val (.int p1_), .val (.int p2_), .val (.long q3_), .second, .val (.long q4_), .second, .val (.int p5_), .unset, .unset, .unset, .unset, .unset, .unset, .unset, .unset, .unset, .unset, .unset, .unset] [] := by first | (simp [entryFrame, mkF, argsToLocals, Value.category, maxLocals]; done) | rfl
def QLaw (Z : State) (q0_ : Int64) (p1_ : Int32) (p2_ : Int32) (q3_ : Int64) (q4_ : Int64) (p5_ : Int32) (h0 : Heap) (n0 : Nat) (v : Option Value) (h : Heap) (L : List Loc) : Prop := v = some (.int (1 : Int32)) ∧ Fr n0 L
set_option maxRecDepth 65536 in
set_option maxHeartbeats 40000000 in
theorem rmLaw (l : Launch) (Z : State) (a0 : Array Value) (hw : ∀ d ∈ tables_1, d.before a0 Z = true) (ws : List Jvm.Cond) (q0_ : Int64) (p1_ : Int32) (p2_ : Int32) (q3_ : Int64) (q4_ : Int64) (p5_ : Int32) (h0 : Heap) (n0 : Nat) (O0 : Old Z n0 h0)  :
    MetFree l x (head1 (Jvm.Cond.code x code maxLocals ret :: ws) room_1) (fun a U => a = #[(.long q0_), (.int p1_), (.int p2_), (.long q3_), (.long q4_), (.int p5_)] ∧ Z.Warmed39 U.vm ∧ U.heap = h0) (fun _ _ _ _ _ => True) (fun _ U o U' => ∃ v L, o = .returned v ∧ QLaw Z q0_ p1_ p2_ q3_ q4_ p5_ h0 n0 v U'.heap L ∧ FrameEnd U o U' L room_1.cells room_1.slots) := by
  refine MetFree.of_bodySF (plainFor_of_name pn_2) hisR ?_
  intro p e s m args below meth c s₁ Bd hml0 hP hK
  obtain ⟨rfl, hZ, hh⟩ := hP
  have hx := Bd.exec
  have hby := Bd.bytes
  have hml : c.maxLocals = 21 := hml0
  have hown : s.vm.findClass "latchwork/cli/RoundCpuPerWallPinLaw" = some m.cls := findClass_of_methodNamed Bd.named
  have hnm := (name_of_methodNamed Bd.named Bd.method).1
  have X0 : Stand p l e room_1 s m #[(.long q0_), (.int p1_), (.int p2_), (.long q3_), (.long q4_), (.int p5_)] below meth c s₁ [] 0 0 := Stand.of_body Bd
  have e0 : s₁.heap = h0 := by rw [← hh, Bd.state]; rfl
  have N0 := Fr.nil n0
  have pre0 : ∀ t, Steps p.tables e below (s₁.setTop (mkF m 0 #[.val (.long q0_), .second, .val (.int p1_), .val (.int p2_), .val (.long q3_), .second, .val (.long q4_), .second, .val (.int p5_), .unset, .unset, .unset, .unset, .unset, .unset, .unset, .unset, .unset, .unset, .unset, .unset] [])) t → Steps p.tables e below (s₁.setTop (entryFrame m #[(.long q0_), (.int p1_), (.int p2_), (.long q3_), (.long q4_), (.int p5_)] maxLocals)) t := fun t k => castTop (efLaw m q0_ p1_ p2_ q3_ q4_ p5_) k
  have K0 : Keep h0 h0 [] := Keep.refl _ _
  have pre1 : ∀ t, Steps p.tables e below (s₁.setTop (mkF m 20 #[.val (.long q0_), .second, .val (.int p1_), .val (.int p2_), .val (.long q3_), .second, .val (.long q4_), .second, .val (.int p5_), .val (.long ((q0_ &&& (1048575 : Int64)) + (1 : Int64))), .second, .val (.long ((2 : Int64) * ((q0_ &&& (1048575 : Int64)) + (1 : Int64)))), .second, .unset, .unset, .unset, .unset, .unset, .unset, .unset, .unset] [(.int (p2_ &&& (1 : Int32)))])) t → Steps p.tables e below (s₁.setTop (entryFrame m #[(.long q0_), (.int p1_), (.int p2_), (.long q3_), (.long q4_), (.int p5_)] maxLocals)) t := by
    intro t kt
    refine pre0 t ?_
    show Steps p.tables e below (s₁.setTop (mkF m 0 #[.val (.long q0_), .second, .val (.int p1_), .val (.int p2_), .val (.long q3_), .second, .val (.long q4_), .second, .val (.int p5_), .unset, .unset, .unset, .unset, .unset, .unset, .unset, .unset, .unset, .unset, .unset, .unset] [])) _
    refine XS.lloadN X0.here hx rfl (hb hby at_0) rfl ?_
    show Steps p.tables e below (s₁.setTop (mkF m 1 #[.val (.long q0_), .second, .val (.int p1_), .val (.int p2_), .val (.long q3_), .second, .val (.long q4_), .second, .val (.int p5_), .unset, .unset, .unset, .unset, .unset, .unset, .unset, .unset, .unset, .unset, .unset, .unset] [(.long q0_)])) _
    refine X0.ldc2Long hx hown (mvT hZ (hw _ (List.mem_of_getElem? (i := 0) rfl))) (g := (mkF m 1 #[.val (.long q0_), .second, .val (.int p1_), .val (.int p2_), .val (.long q3_), .second, .val (.long q4_), .second, .val (.int p5_), .unset, .unset, .unset, .unset, .unset, .unset, .unset, .unset, .unset, .unset, .unset, .unset] [(.long q0_)])) rfl (hb hby at_1) _ ?_
    show Steps p.tables e below (s₁.setTop (mkF m 4 #[.val (.long q0_), .second, .val (.int p1_), .val (.int p2_), .val (.long q3_), .second, .val (.long q4_), .second, .val (.int p5_), .unset, .unset, .unset, .unset, .unset, .unset, .unset, .unset, .unset, .unset, .unset, .unset] [(.long (1048575 : Int64)), (.long q0_)])) _
    refine XS.land X0.here hx rfl (hb hby at_4) rfl ?_
    show Steps p.tables e below (s₁.setTop (mkF m 5 #[.val (.long q0_), .second, .val (.int p1_), .val (.int p2_), .val (.long q3_), .second, .val (.long q4_), .second, .val (.int p5_), .unset, .unset, .unset, .unset, .unset, .unset, .unset, .unset, .unset, .unset, .unset, .unset] [(.long (q0_ &&& (1048575 : Int64)))])) _
    refine XS.lconst X0.here hx rfl (hb hby at_5) ?_
    show Steps p.tables e below (s₁.setTop (mkF m 6 #[.val (.long q0_), .second, .val (.int p1_), .val (.int p2_), .val (.long q3_), .second, .val (.long q4_), .second, .val (.int p5_), .unset, .unset, .unset, .unset, .unset, .unset, .unset, .unset, .unset, .unset, .unset, .unset] [(.long (1 : Int64)), (.long (q0_ &&& (1048575 : Int64)))])) _
    refine XS.ladd X0.here hx rfl (hb hby at_6) rfl ?_
    show Steps p.tables e below (s₁.setTop (mkF m 7 #[.val (.long q0_), .second, .val (.int p1_), .val (.int p2_), .val (.long q3_), .second, .val (.long q4_), .second, .val (.int p5_), .unset, .unset, .unset, .unset, .unset, .unset, .unset, .unset, .unset, .unset, .unset, .unset] [(.long ((q0_ &&& (1048575 : Int64)) + (1 : Int64)))])) _
    refine XS.lstore X0.here hx rfl (hb hby at_7) rfl (l' := #[.val (.long q0_), .second, .val (.int p1_), .val (.int p2_), .val (.long q3_), .second, .val (.long q4_), .second, .val (.int p5_), .val (.long ((q0_ &&& (1048575 : Int64)) + (1 : Int64))), .second, .unset, .unset, .unset, .unset, .unset, .unset, .unset, .unset, .unset, .unset]) rfl ?_
    show Steps p.tables e below (s₁.setTop (mkF m 9 #[.val (.long q0_), .second, .val (.int p1_), .val (.int p2_), .val (.long q3_), .second, .val (.long q4_), .second, .val (.int p5_), .val (.long ((q0_ &&& (1048575 : Int64)) + (1 : Int64))), .second, .unset, .unset, .unset, .unset, .unset, .unset, .unset, .unset, .unset, .unset] [])) _
    refine X0.ldc2Long hx hown (mvT hZ (hw _ (List.mem_of_getElem? (i := 1) rfl))) (g := (mkF m 9 #[.val (.long q0_), .second, .val (.int p1_), .val (.int p2_), .val (.long q3_), .second, .val (.long q4_), .second, .val (.int p5_), .val (.long ((q0_ &&& (1048575 : Int64)) + (1 : Int64))), .second, .unset, .unset, .unset, .unset, .unset, .unset, .unset, .unset, .unset, .unset] [])) rfl (hb hby at_9) _ ?_
    show Steps p.tables e below (s₁.setTop (mkF m 12 #[.val (.long q0_), .second, .val (.int p1_), .val (.int p2_), .val (.long q3_), .second, .val (.long q4_), .second, .val (.int p5_), .val (.long ((q0_ &&& (1048575 : Int64)) + (1 : Int64))), .second, .unset, .unset, .unset, .unset, .unset, .unset, .unset, .unset, .unset, .unset] [(.long (2 : Int64))])) _
    refine XS.lload X0.here hx rfl (hb hby at_12) rfl ?_
    show Steps p.tables e below (s₁.setTop (mkF m 14 #[.val (.long q0_), .second, .val (.int p1_), .val (.int p2_), .val (.long q3_), .second, .val (.long q4_), .second, .val (.int p5_), .val (.long ((q0_ &&& (1048575 : Int64)) + (1 : Int64))), .second, .unset, .unset, .unset, .unset, .unset, .unset, .unset, .unset, .unset, .unset] [(.long ((q0_ &&& (1048575 : Int64)) + (1 : Int64))), (.long (2 : Int64))])) _
    refine XS.lmul X0.here hx rfl (hb hby at_14) rfl ?_
    show Steps p.tables e below (s₁.setTop (mkF m 15 #[.val (.long q0_), .second, .val (.int p1_), .val (.int p2_), .val (.long q3_), .second, .val (.long q4_), .second, .val (.int p5_), .val (.long ((q0_ &&& (1048575 : Int64)) + (1 : Int64))), .second, .unset, .unset, .unset, .unset, .unset, .unset, .unset, .unset, .unset, .unset] [(.long ((2 : Int64) * ((q0_ &&& (1048575 : Int64)) + (1 : Int64))))])) _
    refine XS.lstore X0.here hx rfl (hb hby at_15) rfl (l' := #[.val (.long q0_), .second, .val (.int p1_), .val (.int p2_), .val (.long q3_), .second, .val (.long q4_), .second, .val (.int p5_), .val (.long ((q0_ &&& (1048575 : Int64)) + (1 : Int64))), .second, .val (.long ((2 : Int64) * ((q0_ &&& (1048575 : Int64)) + (1 : Int64)))), .second, .unset, .unset, .unset, .unset, .unset, .unset, .unset, .unset]) rfl ?_
    show Steps p.tables e below (s₁.setTop (mkF m 17 #[.val (.long q0_), .second, .val (.int p1_), .val (.int p2_), .val (.long q3_), .second, .val (.long q4_), .second, .val (.int p5_), .val (.long ((q0_ &&& (1048575 : Int64)) + (1 : Int64))), .second, .val (.long ((2 : Int64) * ((q0_ &&& (1048575 : Int64)) + (1 : Int64)))), .second, .unset, .unset, .unset, .unset, .unset, .unset, .unset, .unset] [])) _
    refine XS.iloadN X0.here hx rfl (hb hby at_17) rfl ?_
    show Steps p.tables e below (s₁.setTop (mkF m 18 #[.val (.long q0_), .second, .val (.int p1_), .val (.int p2_), .val (.long q3_), .second, .val (.long q4_), .second, .val (.int p5_), .val (.long ((q0_ &&& (1048575 : Int64)) + (1 : Int64))), .second, .val (.long ((2 : Int64) * ((q0_ &&& (1048575 : Int64)) + (1 : Int64)))), .second, .unset, .unset, .unset, .unset, .unset, .unset, .unset, .unset] [(.int p2_)])) _
    refine XS.iconst X0.here hx rfl (hb hby at_18) ?_
    show Steps p.tables e below (s₁.setTop (mkF m 19 #[.val (.long q0_), .second, .val (.int p1_), .val (.int p2_), .val (.long q3_), .second, .val (.long q4_), .second, .val (.int p5_), .val (.long ((q0_ &&& (1048575 : Int64)) + (1 : Int64))), .second, .val (.long ((2 : Int64) * ((q0_ &&& (1048575 : Int64)) + (1 : Int64)))), .second, .unset, .unset, .unset, .unset, .unset, .unset, .unset, .unset] [(.int (1 : Int32)), (.int p2_)])) _
    refine XS.iand X0.here hx rfl (hb hby at_19) rfl ?_
    exact kt
  by_cases hc2 : (p2_ &&& (1 : Int32)) = (0 : Int32)
  · obtain ⟨T3, h3, X3, e3, E3, A3, D3, -, st3⟩ := newO X0 hx hZ hown (hw _ (List.mem_of_getElem? (i := 2) rfl)) (hw _ (List.mem_of_getElem? (i := 3) rfl)) (hw _ (List.mem_of_getElem? (i := 4) rfl)) e0 (g := (mkF m 49 #[.val (.long q0_), .second, .val (.int p1_), .val (.int p2_), .val (.long q3_), .second, .val (.long q4_), .second, .val (.int p5_), .val (.long ((q0_ &&& (1048575 : Int64)) + (1 : Int64))), .second, .val (.long ((2 : Int64) * ((q0_ &&& (1048575 : Int64)) + (1 : Int64)))), .second, .val (.int (0 : Int32)), .val (.long (((p1_.toInt64) * ((2 : Int64) * ((q0_ &&& (1048575 : Int64)) + (1 : Int64)))) + (0 : Int64))), .second, .unset, .unset, .unset, .unset, .unset] [])) rfl (hb hby at_49) (by decide) (by decide)
    obtain ⟨b3, g3⟩ : ∃ z, z = h0.size := ⟨_, rfl⟩
    rw [← g3] at A3 D3 st3
    have ge4 : n0 ≤ b3 := Nat.le_trans (Nat.le_trans (Nat.le_of_eq O0.1.symm) O0.2.1) (Nat.le_of_eq g3.symm)
    have sz5 : h0.size ≤ b3 := Nat.le_trans K0.1 (Nat.le_of_eq g3.symm)
    have f6 : Fld Z h3 b3 "latchwork/cli/LockLoop$Round" "wallNanos" "J" (.long (0 : Int64)) := D3 (Or.inr (hw _ (List.mem_of_getElem? (i := 17) rfl))) (ty := .long) (by decide)
    have f7 : Fld Z h3 b3 "latchwork/cli/LockLoop$Round" "cpuNanos" "J" (.long (0 : Int64)) := D3 (Or.inr (hw _ (List.mem_of_getElem? (i := 19) rfl))) (ty := .long) (by decide)
    have f8 : Fld Z h3 b3 "latchwork/cli/LockLoop$Round" "ops" "J" (.long (0 : Int64)) := D3 (Or.inr (hw _ (List.mem_of_getElem? (i := 21) rfl))) (ty := .long) (by decide)
    have f9 : Fld Z h3 b3 "latchwork/cli/LockLoop$Round" "counted" "J" (.long (0 : Int64)) := D3 (Or.inr (hw _ (List.mem_of_getElem? (i := 23) rfl))) (ty := .long) (by decide)
    have f10 : Fld Z h3 b3 "latchwork/cli/LockLoop$Round" "stranded" "I" (.int (0 : Int32)) := D3 (Or.inr (hw _ (List.mem_of_getElem? (i := 25) rfl))) (ty := .int) (by decide)
    have f12 : Old Z n0 h3 := O0.ext E3
    obtain ⟨_, _, ⟨T11, L11, k11, n11⟩, -, X11, ⟨Lc11, hQ11, l11, y11, z11⟩, st11⟩ := X3.specialBack hx (y := (⟨"latchwork/cli/LockLoop$Round", "<init>", "(JJJJI)V"⟩ : MethodName)) rfl hown (mvT hZ (hw _ (List.mem_of_getElem? (i := 5) rfl))) (mvT hZ (hw _ (List.mem_of_getElem? (i := 6) rfl))) (mvT hZ (hw _ (List.mem_of_getElem? (i := 7) rfl))) (by decide) (backOf (W := 1) (rminit1 l Z a0 hw [] b3 ((2 : Int64) * ((q0_ &&& (1048575 : Int64)) + (1 : Int64))) (((p1_.toInt64) * ((2 : Int64) * ((q0_ &&& (1048575 : Int64)) + (1 : Int64)))) + (0 : Int64)) q3_ q4_ p5_ h3 n0 f12 A3 f6 f7 f8 f9 f10 ge4) hZ (hw _ (List.mem_of_getElem? (i := 7) rfl)) (hw _ (List.mem_of_getElem? (i := 4) rfl)) (by decide) (by decide)) (g := (mkF m 63 #[.val (.long q0_), .second, .val (.int p1_), .val (.int p2_), .val (.long q3_), .second, .val (.long q4_), .second, .val (.int p5_), .val (.long ((q0_ &&& (1048575 : Int64)) + (1 : Int64))), .second, .val (.long ((2 : Int64) * ((q0_ &&& (1048575 : Int64)) + (1 : Int64)))), .second, .val (.int (0 : Int32)), .val (.long (((p1_.toInt64) * ((2 : Int64) * ((q0_ &&& (1048575 : Int64)) + (1 : Int64)))) + (0 : Int64))), .second, .unset, .unset, .unset, .unset, .unset] [(.int p5_), (.long q4_), (.long q3_), (.long (((p1_.toInt64) * ((2 : Int64) * ((q0_ &&& (1048575 : Int64)) + (1 : Int64)))) + (0 : Int64))), (.long ((2 : Int64) * ((q0_ &&& (1048575 : Int64)) + (1 : Int64)))), (.ref b3), (.ref b3)])) rfl (by rw [hml]; rfl) (Steps.refl _) (a := b3) (argsL := [(.long ((2 : Int64) * ((q0_ &&& (1048575 : Int64)) + (1 : Int64)))), (.long (((p1_.toInt64) * ((2 : Int64) * ((q0_ &&& (1048575 : Int64)) + (1 : Int64)))) + (0 : Int64))), (.long q3_), (.long q4_), (.int p5_)]) (rest := [(.ref b3)]) (lenOf pd_1 rfl) rfl (by show 2 * 0 + _ ≤ _; exact Nat.le_of_eq rfl) (hb hby at_63) (fun _ _ => ⟨rfl, e3, (by decide : 1 + 0 ≤ _), (by decide : 5 + 0 ≤ _)⟩)
    dsimp only [Pt.U, Pt.locs, Pt.cells, Pt.slots] at X11 l11 y11 z11 st11 hQ11
    subst l11 y11 z11
    obtain ⟨h11, e11⟩ : ∃ z, T11.heap = z := ⟨_, rfl⟩
    rw [e11] at hQ11
    obtain ⟨rfl, N11q, K11, g11_0, g11_1, g11_2, g11_3, g11_4, g11_5⟩ := hQ11
    have N13 := Fr.app N0 N11q
    have hn14 : Jvm.Free.Fl.NoNaN64 (FP.ddiv (FP.l2d (((p1_.toInt64) * ((2 : Int64) * ((q0_ &&& (1048575 : Int64)) + (1 : Int64)))) + (0 : Int64))) (FP.l2d ((2 : Int64) * ((q0_ &&& (1048575 : Int64)) + (1 : Int64))))) := own_nn (own_cpu0 q0_ p1_)
    have f16 : Old Z n0 h11 := f12.keep K11 (allS (ge4) all0)
    obtain ⟨cq15, kq15, q15a, q15b, q15c⟩ := isOf hZ e11 g11_0
    obtain ⟨_, _, ⟨T15, L15, k15, n15⟩, -, X15, ⟨Lc15, hQ15, l15, y15, z15⟩, st15⟩ := X11.virtualBack hx (y := (⟨"latchwork/cli/LockLoop$Round", "cpuPerWall", "()D"⟩ : MethodName)) (z := (⟨"latchwork/cli/LockLoop$Round", "cpuPerWall", "()D"⟩ : MethodName)) hown (mvT hZ (hw _ (List.mem_of_getElem? (i := 26) rfl))) (mvT hZ (hw _ (List.mem_of_getElem? (i := 27) rfl))) (notFace_of_selects (args := #[]) (mvT hZ (hw _ (List.mem_of_getElem? (i := 29) rfl)))) (mvT hZ (hw _ (List.mem_of_getElem? (i := 29) rfl))) (mvT hZ (hw _ (List.mem_of_getElem? (i := 28) rfl))) (by decide) (backOf (W := 0) (rmcpuPerWall3 l Z a0 hw [] b3 ((2 : Int64) * ((q0_ &&& (1048575 : Int64)) + (1 : Int64))) (((p1_.toInt64) * ((2 : Int64) * ((q0_ &&& (1048575 : Int64)) + (1 : Int64)))) + (0 : Int64)) q3_ q4_ p5_ h11 n0 f16 hn14 g11_0 g11_1 g11_2 g11_3 g11_4 g11_5) hZ (hw _ (List.mem_of_getElem? (i := 30) rfl)) (hw _ (List.mem_of_getElem? (i := 4) rfl)) (by decide) (by decide)) q15a q15c (g := (mkF m 70 #[.val (.long q0_), .second, .val (.int p1_), .val (.int p2_), .val (.long q3_), .second, .val (.long q4_), .second, .val (.int p5_), .val (.long ((q0_ &&& (1048575 : Int64)) + (1 : Int64))), .second, .val (.long ((2 : Int64) * ((q0_ &&& (1048575 : Int64)) + (1 : Int64)))), .second, .val (.int (0 : Int32)), .val (.long (((p1_.toInt64) * ((2 : Int64) * ((q0_ &&& (1048575 : Int64)) + (1 : Int64)))) + (0 : Int64))), .second, .val (.ref b3), .unset, .unset, .unset, .unset] [(.ref b3)])) rfl (by rw [hml]; rfl) (Steps.refl _) (argsL := []) (rest := []) (lenOf pd_2 rfl) rfl (by show 2 * 0 + _ ≤ _; exact Nat.le_of_eq rfl) (hb hby at_70) (fun _ _ => ⟨rfl, e11, (by decide : 1 + 0 ≤ _), (by decide : 5 + 0 ≤ _)⟩)
    dsimp only [Pt.U, Pt.locs, Pt.cells, Pt.slots] at X15 l15 y15 z15 st15 hQ15
    subst l15 y15 z15
    obtain ⟨h15, e15⟩ : ∃ z, T15.heap = z := ⟨_, rfl⟩
    rw [e15] at hQ15
    obtain ⟨rfl, N15q, hh15⟩ := hQ15
    have N17 := Fr.app N13 N15q
    have e15' : T15.heap = h11 := e15.trans hh15
    have pre18 : ∀ t, Steps p.tables e below (T15.setTop (mkF m 106 #[.val (.long q0_), .second, .val (.int p1_), .val (.int p2_), .val (.long q3_), .second, .val (.long q4_), .second, .val (.int p5_), .val (.long ((q0_ &&& (1048575 : Int64)) + (1 : Int64))), .second, .val (.long ((2 : Int64) * ((q0_ &&& (1048575 : Int64)) + (1 : Int64)))), .second, .val (.int (0 : Int32)), .val (.long (((p1_.toInt64) * ((2 : Int64) * ((q0_ &&& (1048575 : Int64)) + (1 : Int64)))) + (0 : Int64))), .second, .val (.ref b3), .val (.double (FP.ddiv (FP.l2d (((p1_.toInt64) * ((2 : Int64) * ((q0_ &&& (1048575 : Int64)) + (1 : Int64)))) + (0 : Int64))) (FP.l2d ((2 : Int64) * ((q0_ &&& (1048575 : Int64)) + (1 : Int64)))))), .second, .val (.double (FP.i2d p1_)), .second] [(.int (1 : Int32))])) t → Steps p.tables e below (s₁.setTop (entryFrame m #[(.long q0_), (.int p1_), (.int p2_), (.long q3_), (.long q4_), (.int p5_)] maxLocals)) t := by
      intro t kt
      refine pre1 t ?_
      show Steps p.tables e below (s₁.setTop (mkF m 20 #[.val (.long q0_), .second, .val (.int p1_), .val (.int p2_), .val (.long q3_), .second, .val (.long q4_), .second, .val (.int p5_), .val (.long ((q0_ &&& (1048575 : Int64)) + (1 : Int64))), .second, .val (.long ((2 : Int64) * ((q0_ &&& (1048575 : Int64)) + (1 : Int64)))), .second, .unset, .unset, .unset, .unset, .unset, .unset, .unset, .unset] [(.int (p2_ &&& (1 : Int32)))])) _
      refine XS.ifYes X0.here hx rfl (pc0 := 20) (pc' := 27) rfl (hb hby at_20) rfl ((if0 _ _).trans (teq hc2).1) (by decide) (by decide) ?_
      show Steps p.tables e below (s₁.setTop (mkF m 27 #[.val (.long q0_), .second, .val (.int p1_), .val (.int p2_), .val (.long q3_), .second, .val (.long q4_), .second, .val (.int p5_), .val (.long ((q0_ &&& (1048575 : Int64)) + (1 : Int64))), .second, .val (.long ((2 : Int64) * ((q0_ &&& (1048575 : Int64)) + (1 : Int64)))), .second, .unset, .unset, .unset, .unset, .unset, .unset, .unset, .unset] [])) _
      refine XS.iconst X0.here hx rfl (hb hby at_27) ?_
      show Steps p.tables e below (s₁.setTop (mkF m 28 #[.val (.long q0_), .second, .val (.int p1_), .val (.int p2_), .val (.long q3_), .second, .val (.long q4_), .second, .val (.int p5_), .val (.long ((q0_ &&& (1048575 : Int64)) + (1 : Int64))), .second, .val (.long ((2 : Int64) * ((q0_ &&& (1048575 : Int64)) + (1 : Int64)))), .second, .unset, .unset, .unset, .unset, .unset, .unset, .unset, .unset] [(.int (0 : Int32))])) _
      refine XS.istore X0.here hx rfl (hb hby at_28) rfl (l' := #[.val (.long q0_), .second, .val (.int p1_), .val (.int p2_), .val (.long q3_), .second, .val (.long q4_), .second, .val (.int p5_), .val (.long ((q0_ &&& (1048575 : Int64)) + (1 : Int64))), .second, .val (.long ((2 : Int64) * ((q0_ &&& (1048575 : Int64)) + (1 : Int64)))), .second, .val (.int (0 : Int32)), .unset, .unset, .unset, .unset, .unset, .unset, .unset]) rfl ?_
      show Steps p.tables e below (s₁.setTop (mkF m 30 #[.val (.long q0_), .second, .val (.int p1_), .val (.int p2_), .val (.long q3_), .second, .val (.long q4_), .second, .val (.int p5_), .val (.long ((q0_ &&& (1048575 : Int64)) + (1 : Int64))), .second, .val (.long ((2 : Int64) * ((q0_ &&& (1048575 : Int64)) + (1 : Int64)))), .second, .val (.int (0 : Int32)), .unset, .unset, .unset, .unset, .unset, .unset, .unset] [])) _
      refine XS.iloadN X0.here hx rfl (hb hby at_30) rfl ?_
      show Steps p.tables e below (s₁.setTop (mkF m 31 #[.val (.long q0_), .second, .val (.int p1_), .val (.int p2_), .val (.long q3_), .second, .val (.long q4_), .second, .val (.int p5_), .val (.long ((q0_ &&& (1048575 : Int64)) + (1 : Int64))), .second, .val (.long ((2 : Int64) * ((q0_ &&& (1048575 : Int64)) + (1 : Int64)))), .second, .val (.int (0 : Int32)), .unset, .unset, .unset, .unset, .unset, .unset, .unset] [(.int p1_)])) _
      refine XS.i2l X0.here hx rfl (hb hby at_31) rfl ?_
      show Steps p.tables e below (s₁.setTop (mkF m 32 #[.val (.long q0_), .second, .val (.int p1_), .val (.int p2_), .val (.long q3_), .second, .val (.long q4_), .second, .val (.int p5_), .val (.long ((q0_ &&& (1048575 : Int64)) + (1 : Int64))), .second, .val (.long ((2 : Int64) * ((q0_ &&& (1048575 : Int64)) + (1 : Int64)))), .second, .val (.int (0 : Int32)), .unset, .unset, .unset, .unset, .unset, .unset, .unset] [(.long (p1_.toInt64))])) _
      refine XS.lload X0.here hx rfl (hb hby at_32) rfl ?_
      show Steps p.tables e below (s₁.setTop (mkF m 34 #[.val (.long q0_), .second, .val (.int p1_), .val (.int p2_), .val (.long q3_), .second, .val (.long q4_), .second, .val (.int p5_), .val (.long ((q0_ &&& (1048575 : Int64)) + (1 : Int64))), .second, .val (.long ((2 : Int64) * ((q0_ &&& (1048575 : Int64)) + (1 : Int64)))), .second, .val (.int (0 : Int32)), .unset, .unset, .unset, .unset, .unset, .unset, .unset] [(.long ((2 : Int64) * ((q0_ &&& (1048575 : Int64)) + (1 : Int64)))), (.long (p1_.toInt64))])) _
      refine XS.lmul X0.here hx rfl (hb hby at_34) rfl ?_
      show Steps p.tables e below (s₁.setTop (mkF m 35 #[.val (.long q0_), .second, .val (.int p1_), .val (.int p2_), .val (.long q3_), .second, .val (.long q4_), .second, .val (.int p5_), .val (.long ((q0_ &&& (1048575 : Int64)) + (1 : Int64))), .second, .val (.long ((2 : Int64) * ((q0_ &&& (1048575 : Int64)) + (1 : Int64)))), .second, .val (.int (0 : Int32)), .unset, .unset, .unset, .unset, .unset, .unset, .unset] [(.long ((p1_.toInt64) * ((2 : Int64) * ((q0_ &&& (1048575 : Int64)) + (1 : Int64)))))])) _
      refine XS.iload X0.here hx rfl (hb hby at_35) rfl ?_
      show Steps p.tables e below (s₁.setTop (mkF m 37 #[.val (.long q0_), .second, .val (.int p1_), .val (.int p2_), .val (.long q3_), .second, .val (.long q4_), .second, .val (.int p5_), .val (.long ((q0_ &&& (1048575 : Int64)) + (1 : Int64))), .second, .val (.long ((2 : Int64) * ((q0_ &&& (1048575 : Int64)) + (1 : Int64)))), .second, .val (.int (0 : Int32)), .unset, .unset, .unset, .unset, .unset, .unset, .unset] [(.int (0 : Int32)), (.long ((p1_.toInt64) * ((2 : Int64) * ((q0_ &&& (1048575 : Int64)) + (1 : Int64)))))])) _
      refine XS.ifYes X0.here hx rfl (pc0 := 37) (pc' := 45) rfl (hb hby at_37) rfl ((if0 _ _).trans (teq (by decide : (0 : Int32) = (0 : Int32))).1) (by decide) (by decide) ?_
      show Steps p.tables e below (s₁.setTop (mkF m 45 #[.val (.long q0_), .second, .val (.int p1_), .val (.int p2_), .val (.long q3_), .second, .val (.long q4_), .second, .val (.int p5_), .val (.long ((q0_ &&& (1048575 : Int64)) + (1 : Int64))), .second, .val (.long ((2 : Int64) * ((q0_ &&& (1048575 : Int64)) + (1 : Int64)))), .second, .val (.int (0 : Int32)), .unset, .unset, .unset, .unset, .unset, .unset, .unset] [(.long ((p1_.toInt64) * ((2 : Int64) * ((q0_ &&& (1048575 : Int64)) + (1 : Int64)))))])) _
      refine XS.lconst X0.here hx rfl (hb hby at_45) ?_
      show Steps p.tables e below (s₁.setTop (mkF m 46 #[.val (.long q0_), .second, .val (.int p1_), .val (.int p2_), .val (.long q3_), .second, .val (.long q4_), .second, .val (.int p5_), .val (.long ((q0_ &&& (1048575 : Int64)) + (1 : Int64))), .second, .val (.long ((2 : Int64) * ((q0_ &&& (1048575 : Int64)) + (1 : Int64)))), .second, .val (.int (0 : Int32)), .unset, .unset, .unset, .unset, .unset, .unset, .unset] [(.long (0 : Int64)), (.long ((p1_.toInt64) * ((2 : Int64) * ((q0_ &&& (1048575 : Int64)) + (1 : Int64)))))])) _
      refine XS.ladd X0.here hx rfl (hb hby at_46) rfl ?_
      show Steps p.tables e below (s₁.setTop (mkF m 47 #[.val (.long q0_), .second, .val (.int p1_), .val (.int p2_), .val (.long q3_), .second, .val (.long q4_), .second, .val (.int p5_), .val (.long ((q0_ &&& (1048575 : Int64)) + (1 : Int64))), .second, .val (.long ((2 : Int64) * ((q0_ &&& (1048575 : Int64)) + (1 : Int64)))), .second, .val (.int (0 : Int32)), .unset, .unset, .unset, .unset, .unset, .unset, .unset] [(.long (((p1_.toInt64) * ((2 : Int64) * ((q0_ &&& (1048575 : Int64)) + (1 : Int64)))) + (0 : Int64)))])) _
      refine XS.lstore X0.here hx rfl (hb hby at_47) rfl (l' := #[.val (.long q0_), .second, .val (.int p1_), .val (.int p2_), .val (.long q3_), .second, .val (.long q4_), .second, .val (.int p5_), .val (.long ((q0_ &&& (1048575 : Int64)) + (1 : Int64))), .second, .val (.long ((2 : Int64) * ((q0_ &&& (1048575 : Int64)) + (1 : Int64)))), .second, .val (.int (0 : Int32)), .val (.long (((p1_.toInt64) * ((2 : Int64) * ((q0_ &&& (1048575 : Int64)) + (1 : Int64)))) + (0 : Int64))), .second, .unset, .unset, .unset, .unset, .unset]) rfl ?_
      show Steps p.tables e below (s₁.setTop (mkF m 49 #[.val (.long q0_), .second, .val (.int p1_), .val (.int p2_), .val (.long q3_), .second, .val (.long q4_), .second, .val (.int p5_), .val (.long ((q0_ &&& (1048575 : Int64)) + (1 : Int64))), .second, .val (.long ((2 : Int64) * ((q0_ &&& (1048575 : Int64)) + (1 : Int64)))), .second, .val (.int (0 : Int32)), .val (.long (((p1_.toInt64) * ((2 : Int64) * ((q0_ &&& (1048575 : Int64)) + (1 : Int64)))) + (0 : Int64))), .second, .unset, .unset, .unset, .unset, .unset] [])) _
      refine st3 _ ?_
      show Steps p.tables e below (T3.setTop (mkF m 52 #[.val (.long q0_), .second, .val (.int p1_), .val (.int p2_), .val (.long q3_), .second, .val (.long q4_), .second, .val (.int p5_), .val (.long ((q0_ &&& (1048575 : Int64)) + (1 : Int64))), .second, .val (.long ((2 : Int64) * ((q0_ &&& (1048575 : Int64)) + (1 : Int64)))), .second, .val (.int (0 : Int32)), .val (.long (((p1_.toInt64) * ((2 : Int64) * ((q0_ &&& (1048575 : Int64)) + (1 : Int64)))) + (0 : Int64))), .second, .unset, .unset, .unset, .unset, .unset] [(.ref b3)])) _
      refine XS.dup X3.here hx rfl (hb hby at_52) rfl rfl ?_
      show Steps p.tables e below (T3.setTop (mkF m 53 #[.val (.long q0_), .second, .val (.int p1_), .val (.int p2_), .val (.long q3_), .second, .val (.long q4_), .second, .val (.int p5_), .val (.long ((q0_ &&& (1048575 : Int64)) + (1 : Int64))), .second, .val (.long ((2 : Int64) * ((q0_ &&& (1048575 : Int64)) + (1 : Int64)))), .second, .val (.int (0 : Int32)), .val (.long (((p1_.toInt64) * ((2 : Int64) * ((q0_ &&& (1048575 : Int64)) + (1 : Int64)))) + (0 : Int64))), .second, .unset, .unset, .unset, .unset, .unset] [(.ref b3), (.ref b3)])) _
      refine XS.lload X3.here hx rfl (hb hby at_53) rfl ?_
      show Steps p.tables e below (T3.setTop (mkF m 55 #[.val (.long q0_), .second, .val (.int p1_), .val (.int p2_), .val (.long q3_), .second, .val (.long q4_), .second, .val (.int p5_), .val (.long ((q0_ &&& (1048575 : Int64)) + (1 : Int64))), .second, .val (.long ((2 : Int64) * ((q0_ &&& (1048575 : Int64)) + (1 : Int64)))), .second, .val (.int (0 : Int32)), .val (.long (((p1_.toInt64) * ((2 : Int64) * ((q0_ &&& (1048575 : Int64)) + (1 : Int64)))) + (0 : Int64))), .second, .unset, .unset, .unset, .unset, .unset] [(.long ((2 : Int64) * ((q0_ &&& (1048575 : Int64)) + (1 : Int64)))), (.ref b3), (.ref b3)])) _
      refine XS.lload X3.here hx rfl (hb hby at_55) rfl ?_
      show Steps p.tables e below (T3.setTop (mkF m 57 #[.val (.long q0_), .second, .val (.int p1_), .val (.int p2_), .val (.long q3_), .second, .val (.long q4_), .second, .val (.int p5_), .val (.long ((q0_ &&& (1048575 : Int64)) + (1 : Int64))), .second, .val (.long ((2 : Int64) * ((q0_ &&& (1048575 : Int64)) + (1 : Int64)))), .second, .val (.int (0 : Int32)), .val (.long (((p1_.toInt64) * ((2 : Int64) * ((q0_ &&& (1048575 : Int64)) + (1 : Int64)))) + (0 : Int64))), .second, .unset, .unset, .unset, .unset, .unset] [(.long (((p1_.toInt64) * ((2 : Int64) * ((q0_ &&& (1048575 : Int64)) + (1 : Int64)))) + (0 : Int64))), (.long ((2 : Int64) * ((q0_ &&& (1048575 : Int64)) + (1 : Int64)))), (.ref b3), (.ref b3)])) _
      refine XS.lload X3.here hx rfl (hb hby at_57) rfl ?_
      show Steps p.tables e below (T3.setTop (mkF m 59 #[.val (.long q0_), .second, .val (.int p1_), .val (.int p2_), .val (.long q3_), .second, .val (.long q4_), .second, .val (.int p5_), .val (.long ((q0_ &&& (1048575 : Int64)) + (1 : Int64))), .second, .val (.long ((2 : Int64) * ((q0_ &&& (1048575 : Int64)) + (1 : Int64)))), .second, .val (.int (0 : Int32)), .val (.long (((p1_.toInt64) * ((2 : Int64) * ((q0_ &&& (1048575 : Int64)) + (1 : Int64)))) + (0 : Int64))), .second, .unset, .unset, .unset, .unset, .unset] [(.long q3_), (.long (((p1_.toInt64) * ((2 : Int64) * ((q0_ &&& (1048575 : Int64)) + (1 : Int64)))) + (0 : Int64))), (.long ((2 : Int64) * ((q0_ &&& (1048575 : Int64)) + (1 : Int64)))), (.ref b3), (.ref b3)])) _
      refine XS.lload X3.here hx rfl (hb hby at_59) rfl ?_
      show Steps p.tables e below (T3.setTop (mkF m 61 #[.val (.long q0_), .second, .val (.int p1_), .val (.int p2_), .val (.long q3_), .second, .val (.long q4_), .second, .val (.int p5_), .val (.long ((q0_ &&& (1048575 : Int64)) + (1 : Int64))), .second, .val (.long ((2 : Int64) * ((q0_ &&& (1048575 : Int64)) + (1 : Int64)))), .second, .val (.int (0 : Int32)), .val (.long (((p1_.toInt64) * ((2 : Int64) * ((q0_ &&& (1048575 : Int64)) + (1 : Int64)))) + (0 : Int64))), .second, .unset, .unset, .unset, .unset, .unset] [(.long q4_), (.long q3_), (.long (((p1_.toInt64) * ((2 : Int64) * ((q0_ &&& (1048575 : Int64)) + (1 : Int64)))) + (0 : Int64))), (.long ((2 : Int64) * ((q0_ &&& (1048575 : Int64)) + (1 : Int64)))), (.ref b3), (.ref b3)])) _
      refine XS.iload X3.here hx rfl (hb hby at_61) rfl ?_
      show Steps p.tables e below (T3.setTop (mkF m 63 #[.val (.long q0_), .second, .val (.int p1_), .val (.int p2_), .val (.long q3_), .second, .val (.long q4_), .second, .val (.int p5_), .val (.long ((q0_ &&& (1048575 : Int64)) + (1 : Int64))), .second, .val (.long ((2 : Int64) * ((q0_ &&& (1048575 : Int64)) + (1 : Int64)))), .second, .val (.int (0 : Int32)), .val (.long (((p1_.toInt64) * ((2 : Int64) * ((q0_ &&& (1048575 : Int64)) + (1 : Int64)))) + (0 : Int64))), .second, .unset, .unset, .unset, .unset, .unset] [(.int p5_), (.long q4_), (.long q3_), (.long (((p1_.toInt64) * ((2 : Int64) * ((q0_ &&& (1048575 : Int64)) + (1 : Int64)))) + (0 : Int64))), (.long ((2 : Int64) * ((q0_ &&& (1048575 : Int64)) + (1 : Int64)))), (.ref b3), (.ref b3)])) _
      refine st11.trans ?_
      show Steps p.tables e below (T11.setTop (mkF m 66 #[.val (.long q0_), .second, .val (.int p1_), .val (.int p2_), .val (.long q3_), .second, .val (.long q4_), .second, .val (.int p5_), .val (.long ((q0_ &&& (1048575 : Int64)) + (1 : Int64))), .second, .val (.long ((2 : Int64) * ((q0_ &&& (1048575 : Int64)) + (1 : Int64)))), .second, .val (.int (0 : Int32)), .val (.long (((p1_.toInt64) * ((2 : Int64) * ((q0_ &&& (1048575 : Int64)) + (1 : Int64)))) + (0 : Int64))), .second, .unset, .unset, .unset, .unset, .unset] [(.ref b3)])) _
      refine XS.astore X11.here hx rfl (hb hby at_66) rfl rfl (l' := #[.val (.long q0_), .second, .val (.int p1_), .val (.int p2_), .val (.long q3_), .second, .val (.long q4_), .second, .val (.int p5_), .val (.long ((q0_ &&& (1048575 : Int64)) + (1 : Int64))), .second, .val (.long ((2 : Int64) * ((q0_ &&& (1048575 : Int64)) + (1 : Int64)))), .second, .val (.int (0 : Int32)), .val (.long (((p1_.toInt64) * ((2 : Int64) * ((q0_ &&& (1048575 : Int64)) + (1 : Int64)))) + (0 : Int64))), .second, .val (.ref b3), .unset, .unset, .unset, .unset]) rfl ?_
      show Steps p.tables e below (T11.setTop (mkF m 68 #[.val (.long q0_), .second, .val (.int p1_), .val (.int p2_), .val (.long q3_), .second, .val (.long q4_), .second, .val (.int p5_), .val (.long ((q0_ &&& (1048575 : Int64)) + (1 : Int64))), .second, .val (.long ((2 : Int64) * ((q0_ &&& (1048575 : Int64)) + (1 : Int64)))), .second, .val (.int (0 : Int32)), .val (.long (((p1_.toInt64) * ((2 : Int64) * ((q0_ &&& (1048575 : Int64)) + (1 : Int64)))) + (0 : Int64))), .second, .val (.ref b3), .unset, .unset, .unset, .unset] [])) _
      refine XS.aload X11.here hx rfl (hb hby at_68) rfl rfl ?_
      show Steps p.tables e below (T11.setTop (mkF m 70 #[.val (.long q0_), .second, .val (.int p1_), .val (.int p2_), .val (.long q3_), .second, .val (.long q4_), .second, .val (.int p5_), .val (.long ((q0_ &&& (1048575 : Int64)) + (1 : Int64))), .second, .val (.long ((2 : Int64) * ((q0_ &&& (1048575 : Int64)) + (1 : Int64)))), .second, .val (.int (0 : Int32)), .val (.long (((p1_.toInt64) * ((2 : Int64) * ((q0_ &&& (1048575 : Int64)) + (1 : Int64)))) + (0 : Int64))), .second, .val (.ref b3), .unset, .unset, .unset, .unset] [(.ref b3)])) _
      refine st15.trans ?_
      show Steps p.tables e below (T15.setTop (mkF m 73 #[.val (.long q0_), .second, .val (.int p1_), .val (.int p2_), .val (.long q3_), .second, .val (.long q4_), .second, .val (.int p5_), .val (.long ((q0_ &&& (1048575 : Int64)) + (1 : Int64))), .second, .val (.long ((2 : Int64) * ((q0_ &&& (1048575 : Int64)) + (1 : Int64)))), .second, .val (.int (0 : Int32)), .val (.long (((p1_.toInt64) * ((2 : Int64) * ((q0_ &&& (1048575 : Int64)) + (1 : Int64)))) + (0 : Int64))), .second, .val (.ref b3), .unset, .unset, .unset, .unset] [(.double (FP.ddiv (FP.l2d (((p1_.toInt64) * ((2 : Int64) * ((q0_ &&& (1048575 : Int64)) + (1 : Int64)))) + (0 : Int64))) (FP.l2d ((2 : Int64) * ((q0_ &&& (1048575 : Int64)) + (1 : Int64))))))])) _
      refine XS.dstore X15.here hx rfl (hb hby at_73) rfl (l' := #[.val (.long q0_), .second, .val (.int p1_), .val (.int p2_), .val (.long q3_), .second, .val (.long q4_), .second, .val (.int p5_), .val (.long ((q0_ &&& (1048575 : Int64)) + (1 : Int64))), .second, .val (.long ((2 : Int64) * ((q0_ &&& (1048575 : Int64)) + (1 : Int64)))), .second, .val (.int (0 : Int32)), .val (.long (((p1_.toInt64) * ((2 : Int64) * ((q0_ &&& (1048575 : Int64)) + (1 : Int64)))) + (0 : Int64))), .second, .val (.ref b3), .val (.double (FP.ddiv (FP.l2d (((p1_.toInt64) * ((2 : Int64) * ((q0_ &&& (1048575 : Int64)) + (1 : Int64)))) + (0 : Int64))) (FP.l2d ((2 : Int64) * ((q0_ &&& (1048575 : Int64)) + (1 : Int64)))))), .second, .unset, .unset]) rfl ?_
      show Steps p.tables e below (T15.setTop (mkF m 75 #[.val (.long q0_), .second, .val (.int p1_), .val (.int p2_), .val (.long q3_), .second, .val (.long q4_), .second, .val (.int p5_), .val (.long ((q0_ &&& (1048575 : Int64)) + (1 : Int64))), .second, .val (.long ((2 : Int64) * ((q0_ &&& (1048575 : Int64)) + (1 : Int64)))), .second, .val (.int (0 : Int32)), .val (.long (((p1_.toInt64) * ((2 : Int64) * ((q0_ &&& (1048575 : Int64)) + (1 : Int64)))) + (0 : Int64))), .second, .val (.ref b3), .val (.double (FP.ddiv (FP.l2d (((p1_.toInt64) * ((2 : Int64) * ((q0_ &&& (1048575 : Int64)) + (1 : Int64)))) + (0 : Int64))) (FP.l2d ((2 : Int64) * ((q0_ &&& (1048575 : Int64)) + (1 : Int64)))))), .second, .unset, .unset] [])) _
      refine XS.iload X15.here hx rfl (hb hby at_75) rfl ?_
      show Steps p.tables e below (T15.setTop (mkF m 77 #[.val (.long q0_), .second, .val (.int p1_), .val (.int p2_), .val (.long q3_), .second, .val (.long q4_), .second, .val (.int p5_), .val (.long ((q0_ &&& (1048575 : Int64)) + (1 : Int64))), .second, .val (.long ((2 : Int64) * ((q0_ &&& (1048575 : Int64)) + (1 : Int64)))), .second, .val (.int (0 : Int32)), .val (.long (((p1_.toInt64) * ((2 : Int64) * ((q0_ &&& (1048575 : Int64)) + (1 : Int64)))) + (0 : Int64))), .second, .val (.ref b3), .val (.double (FP.ddiv (FP.l2d (((p1_.toInt64) * ((2 : Int64) * ((q0_ &&& (1048575 : Int64)) + (1 : Int64)))) + (0 : Int64))) (FP.l2d ((2 : Int64) * ((q0_ &&& (1048575 : Int64)) + (1 : Int64)))))), .second, .unset, .unset] [(.int (0 : Int32))])) _
      refine XS.ifYes X15.here hx rfl (pc0 := 77) (pc' := 89) rfl (hb hby at_77) rfl ((if0 _ _).trans (teq (by decide : (0 : Int32) = (0 : Int32))).1) (by decide) (by decide) ?_
      show Steps p.tables e below (T15.setTop (mkF m 89 #[.val (.long q0_), .second, .val (.int p1_), .val (.int p2_), .val (.long q3_), .second, .val (.long q4_), .second, .val (.int p5_), .val (.long ((q0_ &&& (1048575 : Int64)) + (1 : Int64))), .second, .val (.long ((2 : Int64) * ((q0_ &&& (1048575 : Int64)) + (1 : Int64)))), .second, .val (.int (0 : Int32)), .val (.long (((p1_.toInt64) * ((2 : Int64) * ((q0_ &&& (1048575 : Int64)) + (1 : Int64)))) + (0 : Int64))), .second, .val (.ref b3), .val (.double (FP.ddiv (FP.l2d (((p1_.toInt64) * ((2 : Int64) * ((q0_ &&& (1048575 : Int64)) + (1 : Int64)))) + (0 : Int64))) (FP.l2d ((2 : Int64) * ((q0_ &&& (1048575 : Int64)) + (1 : Int64)))))), .second, .unset, .unset] [])) _
      refine XS.iloadN X15.here hx rfl (hb hby at_89) rfl ?_
      show Steps p.tables e below (T15.setTop (mkF m 90 #[.val (.long q0_), .second, .val (.int p1_), .val (.int p2_), .val (.long q3_), .second, .val (.long q4_), .second, .val (.int p5_), .val (.long ((q0_ &&& (1048575 : Int64)) + (1 : Int64))), .second, .val (.long ((2 : Int64) * ((q0_ &&& (1048575 : Int64)) + (1 : Int64)))), .second, .val (.int (0 : Int32)), .val (.long (((p1_.toInt64) * ((2 : Int64) * ((q0_ &&& (1048575 : Int64)) + (1 : Int64)))) + (0 : Int64))), .second, .val (.ref b3), .val (.double (FP.ddiv (FP.l2d (((p1_.toInt64) * ((2 : Int64) * ((q0_ &&& (1048575 : Int64)) + (1 : Int64)))) + (0 : Int64))) (FP.l2d ((2 : Int64) * ((q0_ &&& (1048575 : Int64)) + (1 : Int64)))))), .second, .unset, .unset] [(.int p1_)])) _
      refine XS.i2dS X15.here hx rfl (hb hby at_90) rfl rfl ?_
      show Steps p.tables e below (T15.setTop (mkF m 91 #[.val (.long q0_), .second, .val (.int p1_), .val (.int p2_), .val (.long q3_), .second, .val (.long q4_), .second, .val (.int p5_), .val (.long ((q0_ &&& (1048575 : Int64)) + (1 : Int64))), .second, .val (.long ((2 : Int64) * ((q0_ &&& (1048575 : Int64)) + (1 : Int64)))), .second, .val (.int (0 : Int32)), .val (.long (((p1_.toInt64) * ((2 : Int64) * ((q0_ &&& (1048575 : Int64)) + (1 : Int64)))) + (0 : Int64))), .second, .val (.ref b3), .val (.double (FP.ddiv (FP.l2d (((p1_.toInt64) * ((2 : Int64) * ((q0_ &&& (1048575 : Int64)) + (1 : Int64)))) + (0 : Int64))) (FP.l2d ((2 : Int64) * ((q0_ &&& (1048575 : Int64)) + (1 : Int64)))))), .second, .unset, .unset] [(.double (FP.i2d p1_))])) _
      refine XS.dstore X15.here hx rfl (hb hby at_91) rfl (l' := #[.val (.long q0_), .second, .val (.int p1_), .val (.int p2_), .val (.long q3_), .second, .val (.long q4_), .second, .val (.int p5_), .val (.long ((q0_ &&& (1048575 : Int64)) + (1 : Int64))), .second, .val (.long ((2 : Int64) * ((q0_ &&& (1048575 : Int64)) + (1 : Int64)))), .second, .val (.int (0 : Int32)), .val (.long (((p1_.toInt64) * ((2 : Int64) * ((q0_ &&& (1048575 : Int64)) + (1 : Int64)))) + (0 : Int64))), .second, .val (.ref b3), .val (.double (FP.ddiv (FP.l2d (((p1_.toInt64) * ((2 : Int64) * ((q0_ &&& (1048575 : Int64)) + (1 : Int64)))) + (0 : Int64))) (FP.l2d ((2 : Int64) * ((q0_ &&& (1048575 : Int64)) + (1 : Int64)))))), .second, .val (.double (FP.i2d p1_)), .second]) rfl ?_
      show Steps p.tables e below (T15.setTop (mkF m 93 #[.val (.long q0_), .second, .val (.int p1_), .val (.int p2_), .val (.long q3_), .second, .val (.long q4_), .second, .val (.int p5_), .val (.long ((q0_ &&& (1048575 : Int64)) + (1 : Int64))), .second, .val (.long ((2 : Int64) * ((q0_ &&& (1048575 : Int64)) + (1 : Int64)))), .second, .val (.int (0 : Int32)), .val (.long (((p1_.toInt64) * ((2 : Int64) * ((q0_ &&& (1048575 : Int64)) + (1 : Int64)))) + (0 : Int64))), .second, .val (.ref b3), .val (.double (FP.ddiv (FP.l2d (((p1_.toInt64) * ((2 : Int64) * ((q0_ &&& (1048575 : Int64)) + (1 : Int64)))) + (0 : Int64))) (FP.l2d ((2 : Int64) * ((q0_ &&& (1048575 : Int64)) + (1 : Int64)))))), .second, .val (.double (FP.i2d p1_)), .second] [])) _
      refine XS.dload X15.here hx rfl (hb hby at_93) rfl ?_
      show Steps p.tables e below (T15.setTop (mkF m 95 #[.val (.long q0_), .second, .val (.int p1_), .val (.int p2_), .val (.long q3_), .second, .val (.long q4_), .second, .val (.int p5_), .val (.long ((q0_ &&& (1048575 : Int64)) + (1 : Int64))), .second, .val (.long ((2 : Int64) * ((q0_ &&& (1048575 : Int64)) + (1 : Int64)))), .second, .val (.int (0 : Int32)), .val (.long (((p1_.toInt64) * ((2 : Int64) * ((q0_ &&& (1048575 : Int64)) + (1 : Int64)))) + (0 : Int64))), .second, .val (.ref b3), .val (.double (FP.ddiv (FP.l2d (((p1_.toInt64) * ((2 : Int64) * ((q0_ &&& (1048575 : Int64)) + (1 : Int64)))) + (0 : Int64))) (FP.l2d ((2 : Int64) * ((q0_ &&& (1048575 : Int64)) + (1 : Int64)))))), .second, .val (.double (FP.i2d p1_)), .second] [(.double (FP.ddiv (FP.l2d (((p1_.toInt64) * ((2 : Int64) * ((q0_ &&& (1048575 : Int64)) + (1 : Int64)))) + (0 : Int64))) (FP.l2d ((2 : Int64) * ((q0_ &&& (1048575 : Int64)) + (1 : Int64))))))])) _
      refine XS.dload X15.here hx rfl (hb hby at_95) rfl ?_
      show Steps p.tables e below (T15.setTop (mkF m 97 #[.val (.long q0_), .second, .val (.int p1_), .val (.int p2_), .val (.long q3_), .second, .val (.long q4_), .second, .val (.int p5_), .val (.long ((q0_ &&& (1048575 : Int64)) + (1 : Int64))), .second, .val (.long ((2 : Int64) * ((q0_ &&& (1048575 : Int64)) + (1 : Int64)))), .second, .val (.int (0 : Int32)), .val (.long (((p1_.toInt64) * ((2 : Int64) * ((q0_ &&& (1048575 : Int64)) + (1 : Int64)))) + (0 : Int64))), .second, .val (.ref b3), .val (.double (FP.ddiv (FP.l2d (((p1_.toInt64) * ((2 : Int64) * ((q0_ &&& (1048575 : Int64)) + (1 : Int64)))) + (0 : Int64))) (FP.l2d ((2 : Int64) * ((q0_ &&& (1048575 : Int64)) + (1 : Int64)))))), .second, .val (.double (FP.i2d p1_)), .second] [(.double (FP.i2d p1_)), (.double (FP.ddiv (FP.l2d (((p1_.toInt64) * ((2 : Int64) * ((q0_ &&& (1048575 : Int64)) + (1 : Int64)))) + (0 : Int64))) (FP.l2d ((2 : Int64) * ((q0_ &&& (1048575 : Int64)) + (1 : Int64))))))])) _
      refine XS.dcmpS X15.here hx rfl (hb hby at_97) rfl rfl ?_
      show Steps p.tables e below (T15.setTop (mkF m 98 #[.val (.long q0_), .second, .val (.int p1_), .val (.int p2_), .val (.long q3_), .second, .val (.long q4_), .second, .val (.int p5_), .val (.long ((q0_ &&& (1048575 : Int64)) + (1 : Int64))), .second, .val (.long ((2 : Int64) * ((q0_ &&& (1048575 : Int64)) + (1 : Int64)))), .second, .val (.int (0 : Int32)), .val (.long (((p1_.toInt64) * ((2 : Int64) * ((q0_ &&& (1048575 : Int64)) + (1 : Int64)))) + (0 : Int64))), .second, .val (.ref b3), .val (.double (FP.ddiv (FP.l2d (((p1_.toInt64) * ((2 : Int64) * ((q0_ &&& (1048575 : Int64)) + (1 : Int64)))) + (0 : Int64))) (FP.l2d ((2 : Int64) * ((q0_ &&& (1048575 : Int64)) + (1 : Int64)))))), .second, .val (.double (FP.i2d p1_)), .second] [(.int (cmpValue (FP.dcmp (FP.ddiv (FP.l2d (((p1_.toInt64) * ((2 : Int64) * ((q0_ &&& (1048575 : Int64)) + (1 : Int64)))) + (0 : Int64))) (FP.l2d ((2 : Int64) * ((q0_ &&& (1048575 : Int64)) + (1 : Int64))))) (FP.i2d p1_)) .l))])) _
      refine XS.ifNo X15.here hx rfl (hb hby at_98) rfl ((if0 _ _).trans (teq (own_got0 q0_ p1_)).2) ?_
      show Steps p.tables e below (T15.setTop (mkF m 101 #[.val (.long q0_), .second, .val (.int p1_), .val (.int p2_), .val (.long q3_), .second, .val (.long q4_), .second, .val (.int p5_), .val (.long ((q0_ &&& (1048575 : Int64)) + (1 : Int64))), .second, .val (.long ((2 : Int64) * ((q0_ &&& (1048575 : Int64)) + (1 : Int64)))), .second, .val (.int (0 : Int32)), .val (.long (((p1_.toInt64) * ((2 : Int64) * ((q0_ &&& (1048575 : Int64)) + (1 : Int64)))) + (0 : Int64))), .second, .val (.ref b3), .val (.double (FP.ddiv (FP.l2d (((p1_.toInt64) * ((2 : Int64) * ((q0_ &&& (1048575 : Int64)) + (1 : Int64)))) + (0 : Int64))) (FP.l2d ((2 : Int64) * ((q0_ &&& (1048575 : Int64)) + (1 : Int64)))))), .second, .val (.double (FP.i2d p1_)), .second] [])) _
      refine XS.iconst X15.here hx rfl (hb hby at_101) ?_
      show Steps p.tables e below (T15.setTop (mkF m 102 #[.val (.long q0_), .second, .val (.int p1_), .val (.int p2_), .val (.long q3_), .second, .val (.long q4_), .second, .val (.int p5_), .val (.long ((q0_ &&& (1048575 : Int64)) + (1 : Int64))), .second, .val (.long ((2 : Int64) * ((q0_ &&& (1048575 : Int64)) + (1 : Int64)))), .second, .val (.int (0 : Int32)), .val (.long (((p1_.toInt64) * ((2 : Int64) * ((q0_ &&& (1048575 : Int64)) + (1 : Int64)))) + (0 : Int64))), .second, .val (.ref b3), .val (.double (FP.ddiv (FP.l2d (((p1_.toInt64) * ((2 : Int64) * ((q0_ &&& (1048575 : Int64)) + (1 : Int64)))) + (0 : Int64))) (FP.l2d ((2 : Int64) * ((q0_ &&& (1048575 : Int64)) + (1 : Int64)))))), .second, .val (.double (FP.i2d p1_)), .second] [(.int (1 : Int32))])) _
      refine XS.goto X15.here hx rfl (pc0 := 102) (pc' := 106) rfl (hb hby at_102) (by decide) (by decide) ?_
      exact kt
    obtain ⟨fs, hr, hrun, hended, hW, hsame⟩ := X15.leave (v := some (.int (1 : Int32))) (fun h => by rw [Bd.returns] at h; cases h)
    refine ⟨_, _, pre18 _ (retN X15 hx (t := .boolean) Bd.returns (by simp) (hb hby at_106) hr), hrun, hended, _, _, rfl, ?_, ⟨_, rfl⟩, hW, hsame.mono (by decide) (by decide)⟩
    show QLaw Z q0_ p1_ p2_ q3_ q4_ p5_ h0 n0 _ T15.heap _
    rw [e15']
    exact ⟨rfl, N17⟩
  · obtain ⟨T20, h20, X20, e20, E20, A20, D20, -, st20⟩ := newO X0 hx hZ hown (hw _ (List.mem_of_getElem? (i := 2) rfl)) (hw _ (List.mem_of_getElem? (i := 3) rfl)) (hw _ (List.mem_of_getElem? (i := 4) rfl)) e0 (g := (mkF m 49 #[.val (.long q0_), .second, .val (.int p1_), .val (.int p2_), .val (.long q3_), .second, .val (.long q4_), .second, .val (.int p5_), .val (.long ((q0_ &&& (1048575 : Int64)) + (1 : Int64))), .second, .val (.long ((2 : Int64) * ((q0_ &&& (1048575 : Int64)) + (1 : Int64)))), .second, .val (.int (1 : Int32)), .val (.long (((p1_.toInt64) * ((2 : Int64) * ((q0_ &&& (1048575 : Int64)) + (1 : Int64)))) + ((q0_ &&& (1048575 : Int64)) + (1 : Int64)))), .second, .unset, .unset, .unset, .unset, .unset] [])) rfl (hb hby at_49) (by decide) (by decide)
    obtain ⟨b20, g20⟩ : ∃ z, z = h0.size := ⟨_, rfl⟩
    rw [← g20] at A20 D20 st20
    have ge21 : n0 ≤ b20 := Nat.le_trans (Nat.le_trans (Nat.le_of_eq O0.1.symm) O0.2.1) (Nat.le_of_eq g20.symm)
    have sz22 : h0.size ≤ b20 := Nat.le_trans K0.1 (Nat.le_of_eq g20.symm)
    have f23 : Fld Z h20 b20 "latchwork/cli/LockLoop$Round" "wallNanos" "J" (.long (0 : Int64)) := D20 (Or.inr (hw _ (List.mem_of_getElem? (i := 17) rfl))) (ty := .long) (by decide)
    have f24 : Fld Z h20 b20 "latchwork/cli/LockLoop$Round" "cpuNanos" "J" (.long (0 : Int64)) := D20 (Or.inr (hw _ (List.mem_of_getElem? (i := 19) rfl))) (ty := .long) (by decide)
    have f25 : Fld Z h20 b20 "latchwork/cli/LockLoop$Round" "ops" "J" (.long (0 : Int64)) := D20 (Or.inr (hw _ (List.mem_of_getElem? (i := 21) rfl))) (ty := .long) (by decide)
    have f26 : Fld Z h20 b20 "latchwork/cli/LockLoop$Round" "counted" "J" (.long (0 : Int64)) := D20 (Or.inr (hw _ (List.mem_of_getElem? (i := 23) rfl))) (ty := .long) (by decide)
    have f27 : Fld Z h20 b20 "latchwork/cli/LockLoop$Round" "stranded" "I" (.int (0 : Int32)) := D20 (Or.inr (hw _ (List.mem_of_getElem? (i := 25) rfl))) (ty := .int) (by decide)
    have f29 : Old Z n0 h20 := O0.ext E20
    obtain ⟨_, _, ⟨T28, L28, k28, n28⟩, -, X28, ⟨Lc28, hQ28, l28, y28, z28⟩, st28⟩ := X20.specialBack hx (y := (⟨"latchwork/cli/LockLoop$Round", "<init>", "(JJJJI)V"⟩ : MethodName)) rfl hown (mvT hZ (hw _ (List.mem_of_getElem? (i := 5) rfl))) (mvT hZ (hw _ (List.mem_of_getElem? (i := 6) rfl))) (mvT hZ (hw _ (List.mem_of_getElem? (i := 7) rfl))) (by decide) (backOf (W := 1) (rminit1 l Z a0 hw [] b20 ((2 : Int64) * ((q0_ &&& (1048575 : Int64)) + (1 : Int64))) (((p1_.toInt64) * ((2 : Int64) * ((q0_ &&& (1048575 : Int64)) + (1 : Int64)))) + ((q0_ &&& (1048575 : Int64)) + (1 : Int64))) q3_ q4_ p5_ h20 n0 f29 A20 f23 f24 f25 f26 f27 ge21) hZ (hw _ (List.mem_of_getElem? (i := 7) rfl)) (hw _ (List.mem_of_getElem? (i := 4) rfl)) (by decide) (by decide)) (g := (mkF m 63 #[.val (.long q0_), .second, .val (.int p1_), .val (.int p2_), .val (.long q3_), .second, .val (.long q4_), .second, .val (.int p5_), .val (.long ((q0_ &&& (1048575 : Int64)) + (1 : Int64))), .second, .val (.long ((2 : Int64) * ((q0_ &&& (1048575 : Int64)) + (1 : Int64)))), .second, .val (.int (1 : Int32)), .val (.long (((p1_.toInt64) * ((2 : Int64) * ((q0_ &&& (1048575 : Int64)) + (1 : Int64)))) + ((q0_ &&& (1048575 : Int64)) + (1 : Int64)))), .second, .unset, .unset, .unset, .unset, .unset] [(.int p5_), (.long q4_), (.long q3_), (.long (((p1_.toInt64) * ((2 : Int64) * ((q0_ &&& (1048575 : Int64)) + (1 : Int64)))) + ((q0_ &&& (1048575 : Int64)) + (1 : Int64)))), (.long ((2 : Int64) * ((q0_ &&& (1048575 : Int64)) + (1 : Int64)))), (.ref b20), (.ref b20)])) rfl (by rw [hml]; rfl) (Steps.refl _) (a := b20) (argsL := [(.long ((2 : Int64) * ((q0_ &&& (1048575 : Int64)) + (1 : Int64)))), (.long (((p1_.toInt64) * ((2 : Int64) * ((q0_ &&& (1048575 : Int64)) + (1 : Int64)))) + ((q0_ &&& (1048575 : Int64)) + (1 : Int64)))), (.long q3_), (.long q4_), (.int p5_)]) (rest := [(.ref b20)]) (lenOf pd_1 rfl) rfl (by show 2 * 0 + _ ≤ _; exact Nat.le_of_eq rfl) (hb hby at_63) (fun _ _ => ⟨rfl, e20, (by decide : 1 + 0 ≤ _), (by decide : 5 + 0 ≤ _)⟩)
    dsimp only [Pt.U, Pt.locs, Pt.cells, Pt.slots] at X28 l28 y28 z28 st28 hQ28
    subst l28 y28 z28
    obtain ⟨h28, e28⟩ : ∃ z, T28.heap = z := ⟨_, rfl⟩
    rw [e28] at hQ28
    obtain ⟨rfl, N28q, K28, g28_0, g28_1, g28_2, g28_3, g28_4, g28_5⟩ := hQ28
    have N30 := Fr.app N0 N28q
    have hn31 : Jvm.Free.Fl.NoNaN64 (FP.ddiv (FP.l2d (((p1_.toInt64) * ((2 : Int64) * ((q0_ &&& (1048575 : Int64)) + (1 : Int64)))) + ((q0_ &&& (1048575 : Int64)) + (1 : Int64)))) (FP.l2d ((2 : Int64) * ((q0_ &&& (1048575 : Int64)) + (1 : Int64))))) := own_nn (own_cpu1 q0_ p1_)
    have f33 : Old Z n0 h28 := f29.keep K28 (allS (ge21) all0)
    obtain ⟨cq32, kq32, q32a, q32b, q32c⟩ := isOf hZ e28 g28_0
    obtain ⟨_, _, ⟨T32, L32, k32, n32⟩, -, X32, ⟨Lc32, hQ32, l32, y32, z32⟩, st32⟩ := X28.virtualBack hx (y := (⟨"latchwork/cli/LockLoop$Round", "cpuPerWall", "()D"⟩ : MethodName)) (z := (⟨"latchwork/cli/LockLoop$Round", "cpuPerWall", "()D"⟩ : MethodName)) hown (mvT hZ (hw _ (List.mem_of_getElem? (i := 26) rfl))) (mvT hZ (hw _ (List.mem_of_getElem? (i := 27) rfl))) (notFace_of_selects (args := #[]) (mvT hZ (hw _ (List.mem_of_getElem? (i := 29) rfl)))) (mvT hZ (hw _ (List.mem_of_getElem? (i := 29) rfl))) (mvT hZ (hw _ (List.mem_of_getElem? (i := 28) rfl))) (by decide) (backOf (W := 0) (rmcpuPerWall3 l Z a0 hw [] b20 ((2 : Int64) * ((q0_ &&& (1048575 : Int64)) + (1 : Int64))) (((p1_.toInt64) * ((2 : Int64) * ((q0_ &&& (1048575 : Int64)) + (1 : Int64)))) + ((q0_ &&& (1048575 : Int64)) + (1 : Int64))) q3_ q4_ p5_ h28 n0 f33 hn31 g28_0 g28_1 g28_2 g28_3 g28_4 g28_5) hZ (hw _ (List.mem_of_getElem? (i := 30) rfl)) (hw _ (List.mem_of_getElem? (i := 4) rfl)) (by decide) (by decide)) q32a q32c (g := (mkF m 70 #[.val (.long q0_), .second, .val (.int p1_), .val (.int p2_), .val (.long q3_), .second, .val (.long q4_), .second, .val (.int p5_), .val (.long ((q0_ &&& (1048575 : Int64)) + (1 : Int64))), .second, .val (.long ((2 : Int64) * ((q0_ &&& (1048575 : Int64)) + (1 : Int64)))), .second, .val (.int (1 : Int32)), .val (.long (((p1_.toInt64) * ((2 : Int64) * ((q0_ &&& (1048575 : Int64)) + (1 : Int64)))) + ((q0_ &&& (1048575 : Int64)) + (1 : Int64)))), .second, .val (.ref b20), .unset, .unset, .unset, .unset] [(.ref b20)])) rfl (by rw [hml]; rfl) (Steps.refl _) (argsL := []) (rest := []) (lenOf pd_2 rfl) rfl (by show 2 * 0 + _ ≤ _; exact Nat.le_of_eq rfl) (hb hby at_70) (fun _ _ => ⟨rfl, e28, (by decide : 1 + 0 ≤ _), (by decide : 5 + 0 ≤ _)⟩)
    dsimp only [Pt.U, Pt.locs, Pt.cells, Pt.slots] at X32 l32 y32 z32 st32 hQ32
    subst l32 y32 z32
    obtain ⟨h32, e32⟩ : ∃ z, T32.heap = z := ⟨_, rfl⟩
    rw [e32] at hQ32
    obtain ⟨rfl, N32q, hh32⟩ := hQ32
    have N34 := Fr.app N30 N32q
    have e32' : T32.heap = h28 := e32.trans hh32
    have pre35 : ∀ t, Steps p.tables e below (T32.setTop (mkF m 106 #[.val (.long q0_), .second, .val (.int p1_), .val (.int p2_), .val (.long q3_), .second, .val (.long q4_), .second, .val (.int p5_), .val (.long ((q0_ &&& (1048575 : Int64)) + (1 : Int64))), .second, .val (.long ((2 : Int64) * ((q0_ &&& (1048575 : Int64)) + (1 : Int64)))), .second, .val (.int (1 : Int32)), .val (.long (((p1_.toInt64) * ((2 : Int64) * ((q0_ &&& (1048575 : Int64)) + (1 : Int64)))) + ((q0_ &&& (1048575 : Int64)) + (1 : Int64)))), .second, .val (.ref b20), .val (.double (FP.ddiv (FP.l2d (((p1_.toInt64) * ((2 : Int64) * ((q0_ &&& (1048575 : Int64)) + (1 : Int64)))) + ((q0_ &&& (1048575 : Int64)) + (1 : Int64)))) (FP.l2d ((2 : Int64) * ((q0_ &&& (1048575 : Int64)) + (1 : Int64)))))), .second, .val (.double (FP.dadd (FP.i2d p1_) (4602678819172646912 : UInt64))), .second] [(.int (1 : Int32))])) t → Steps p.tables e below (s₁.setTop (entryFrame m #[(.long q0_), (.int p1_), (.int p2_), (.long q3_), (.long q4_), (.int p5_)] maxLocals)) t := by
      intro t kt
      refine pre1 t ?_
      show Steps p.tables e below (s₁.setTop (mkF m 20 #[.val (.long q0_), .second, .val (.int p1_), .val (.int p2_), .val (.long q3_), .second, .val (.long q4_), .second, .val (.int p5_), .val (.long ((q0_ &&& (1048575 : Int64)) + (1 : Int64))), .second, .val (.long ((2 : Int64) * ((q0_ &&& (1048575 : Int64)) + (1 : Int64)))), .second, .unset, .unset, .unset, .unset, .unset, .unset, .unset, .unset] [(.int (p2_ &&& (1 : Int32)))])) _
      refine XS.ifNo X0.here hx rfl (hb hby at_20) rfl ((if0 _ _).trans (feq hc2).1) ?_
      show Steps p.tables e below (s₁.setTop (mkF m 23 #[.val (.long q0_), .second, .val (.int p1_), .val (.int p2_), .val (.long q3_), .second, .val (.long q4_), .second, .val (.int p5_), .val (.long ((q0_ &&& (1048575 : Int64)) + (1 : Int64))), .second, .val (.long ((2 : Int64) * ((q0_ &&& (1048575 : Int64)) + (1 : Int64)))), .second, .unset, .unset, .unset, .unset, .unset, .unset, .unset, .unset] [])) _
      refine XS.iconst X0.here hx rfl (hb hby at_23) ?_
      show Steps p.tables e below (s₁.setTop (mkF m 24 #[.val (.long q0_), .second, .val (.int p1_), .val (.int p2_), .val (.long q3_), .second, .val (.long q4_), .second, .val (.int p5_), .val (.long ((q0_ &&& (1048575 : Int64)) + (1 : Int64))), .second, .val (.long ((2 : Int64) * ((q0_ &&& (1048575 : Int64)) + (1 : Int64)))), .second, .unset, .unset, .unset, .unset, .unset, .unset, .unset, .unset] [(.int (1 : Int32))])) _
      refine XS.goto X0.here hx rfl (pc0 := 24) (pc' := 28) rfl (hb hby at_24) (by decide) (by decide) ?_
      show Steps p.tables e below (s₁.setTop (mkF m 28 #[.val (.long q0_), .second, .val (.int p1_), .val (.int p2_), .val (.long q3_), .second, .val (.long q4_), .second, .val (.int p5_), .val (.long ((q0_ &&& (1048575 : Int64)) + (1 : Int64))), .second, .val (.long ((2 : Int64) * ((q0_ &&& (1048575 : Int64)) + (1 : Int64)))), .second, .unset, .unset, .unset, .unset, .unset, .unset, .unset, .unset] [(.int (1 : Int32))])) _
      refine XS.istore X0.here hx rfl (hb hby at_28) rfl (l' := #[.val (.long q0_), .second, .val (.int p1_), .val (.int p2_), .val (.long q3_), .second, .val (.long q4_), .second, .val (.int p5_), .val (.long ((q0_ &&& (1048575 : Int64)) + (1 : Int64))), .second, .val (.long ((2 : Int64) * ((q0_ &&& (1048575 : Int64)) + (1 : Int64)))), .second, .val (.int (1 : Int32)), .unset, .unset, .unset, .unset, .unset, .unset, .unset]) rfl ?_
      show Steps p.tables e below (s₁.setTop (mkF m 30 #[.val (.long q0_), .second, .val (.int p1_), .val (.int p2_), .val (.long q3_), .second, .val (.long q4_), .second, .val (.int p5_), .val (.long ((q0_ &&& (1048575 : Int64)) + (1 : Int64))), .second, .val (.long ((2 : Int64) * ((q0_ &&& (1048575 : Int64)) + (1 : Int64)))), .second, .val (.int (1 : Int32)), .unset, .unset, .unset, .unset, .unset, .unset, .unset] [])) _
      refine XS.iloadN X0.here hx rfl (hb hby at_30) rfl ?_
      show Steps p.tables e below (s₁.setTop (mkF m 31 #[.val (.long q0_), .second, .val (.int p1_), .val (.int p2_), .val (.long q3_), .second, .val (.long q4_), .second, .val (.int p5_), .val (.long ((q0_ &&& (1048575 : Int64)) + (1 : Int64))), .second, .val (.long ((2 : Int64) * ((q0_ &&& (1048575 : Int64)) + (1 : Int64)))), .second, .val (.int (1 : Int32)), .unset, .unset, .unset, .unset, .unset, .unset, .unset] [(.int p1_)])) _
      refine XS.i2l X0.here hx rfl (hb hby at_31) rfl ?_
      show Steps p.tables e below (s₁.setTop (mkF m 32 #[.val (.long q0_), .second, .val (.int p1_), .val (.int p2_), .val (.long q3_), .second, .val (.long q4_), .second, .val (.int p5_), .val (.long ((q0_ &&& (1048575 : Int64)) + (1 : Int64))), .second, .val (.long ((2 : Int64) * ((q0_ &&& (1048575 : Int64)) + (1 : Int64)))), .second, .val (.int (1 : Int32)), .unset, .unset, .unset, .unset, .unset, .unset, .unset] [(.long (p1_.toInt64))])) _
      refine XS.lload X0.here hx rfl (hb hby at_32) rfl ?_
      show Steps p.tables e below (s₁.setTop (mkF m 34 #[.val (.long q0_), .second, .val (.int p1_), .val (.int p2_), .val (.long q3_), .second, .val (.long q4_), .second, .val (.int p5_), .val (.long ((q0_ &&& (1048575 : Int64)) + (1 : Int64))), .second, .val (.long ((2 : Int64) * ((q0_ &&& (1048575 : Int64)) + (1 : Int64)))), .second, .val (.int (1 : Int32)), .unset, .unset, .unset, .unset, .unset, .unset, .unset] [(.long ((2 : Int64) * ((q0_ &&& (1048575 : Int64)) + (1 : Int64)))), (.long (p1_.toInt64))])) _
      refine XS.lmul X0.here hx rfl (hb hby at_34) rfl ?_
      show Steps p.tables e below (s₁.setTop (mkF m 35 #[.val (.long q0_), .second, .val (.int p1_), .val (.int p2_), .val (.long q3_), .second, .val (.long q4_), .second, .val (.int p5_), .val (.long ((q0_ &&& (1048575 : Int64)) + (1 : Int64))), .second, .val (.long ((2 : Int64) * ((q0_ &&& (1048575 : Int64)) + (1 : Int64)))), .second, .val (.int (1 : Int32)), .unset, .unset, .unset, .unset, .unset, .unset, .unset] [(.long ((p1_.toInt64) * ((2 : Int64) * ((q0_ &&& (1048575 : Int64)) + (1 : Int64)))))])) _
      refine XS.iload X0.here hx rfl (hb hby at_35) rfl ?_
      show Steps p.tables e below (s₁.setTop (mkF m 37 #[.val (.long q0_), .second, .val (.int p1_), .val (.int p2_), .val (.long q3_), .second, .val (.long q4_), .second, .val (.int p5_), .val (.long ((q0_ &&& (1048575 : Int64)) + (1 : Int64))), .second, .val (.long ((2 : Int64) * ((q0_ &&& (1048575 : Int64)) + (1 : Int64)))), .second, .val (.int (1 : Int32)), .unset, .unset, .unset, .unset, .unset, .unset, .unset] [(.int (1 : Int32)), (.long ((p1_.toInt64) * ((2 : Int64) * ((q0_ &&& (1048575 : Int64)) + (1 : Int64)))))])) _
      refine XS.ifNo X0.here hx rfl (hb hby at_37) rfl ((if0 _ _).trans (feq (by decide : ¬ ((1 : Int32) = (0 : Int32)))).1) ?_
      show Steps p.tables e below (s₁.setTop (mkF m 40 #[.val (.long q0_), .second, .val (.int p1_), .val (.int p2_), .val (.long q3_), .second, .val (.long q4_), .second, .val (.int p5_), .val (.long ((q0_ &&& (1048575 : Int64)) + (1 : Int64))), .second, .val (.long ((2 : Int64) * ((q0_ &&& (1048575 : Int64)) + (1 : Int64)))), .second, .val (.int (1 : Int32)), .unset, .unset, .unset, .unset, .unset, .unset, .unset] [(.long ((p1_.toInt64) * ((2 : Int64) * ((q0_ &&& (1048575 : Int64)) + (1 : Int64)))))])) _
      refine XS.lload X0.here hx rfl (hb hby at_40) rfl ?_
      show Steps p.tables e below (s₁.setTop (mkF m 42 #[.val (.long q0_), .second, .val (.int p1_), .val (.int p2_), .val (.long q3_), .second, .val (.long q4_), .second, .val (.int p5_), .val (.long ((q0_ &&& (1048575 : Int64)) + (1 : Int64))), .second, .val (.long ((2 : Int64) * ((q0_ &&& (1048575 : Int64)) + (1 : Int64)))), .second, .val (.int (1 : Int32)), .unset, .unset, .unset, .unset, .unset, .unset, .unset] [(.long ((q0_ &&& (1048575 : Int64)) + (1 : Int64))), (.long ((p1_.toInt64) * ((2 : Int64) * ((q0_ &&& (1048575 : Int64)) + (1 : Int64)))))])) _
      refine XS.goto X0.here hx rfl (pc0 := 42) (pc' := 46) rfl (hb hby at_42) (by decide) (by decide) ?_
      show Steps p.tables e below (s₁.setTop (mkF m 46 #[.val (.long q0_), .second, .val (.int p1_), .val (.int p2_), .val (.long q3_), .second, .val (.long q4_), .second, .val (.int p5_), .val (.long ((q0_ &&& (1048575 : Int64)) + (1 : Int64))), .second, .val (.long ((2 : Int64) * ((q0_ &&& (1048575 : Int64)) + (1 : Int64)))), .second, .val (.int (1 : Int32)), .unset, .unset, .unset, .unset, .unset, .unset, .unset] [(.long ((q0_ &&& (1048575 : Int64)) + (1 : Int64))), (.long ((p1_.toInt64) * ((2 : Int64) * ((q0_ &&& (1048575 : Int64)) + (1 : Int64)))))])) _
      refine XS.ladd X0.here hx rfl (hb hby at_46) rfl ?_
      show Steps p.tables e below (s₁.setTop (mkF m 47 #[.val (.long q0_), .second, .val (.int p1_), .val (.int p2_), .val (.long q3_), .second, .val (.long q4_), .second, .val (.int p5_), .val (.long ((q0_ &&& (1048575 : Int64)) + (1 : Int64))), .second, .val (.long ((2 : Int64) * ((q0_ &&& (1048575 : Int64)) + (1 : Int64)))), .second, .val (.int (1 : Int32)), .unset, .unset, .unset, .unset, .unset, .unset, .unset] [(.long (((p1_.toInt64) * ((2 : Int64) * ((q0_ &&& (1048575 : Int64)) + (1 : Int64)))) + ((q0_ &&& (1048575 : Int64)) + (1 : Int64))))])) _
      refine XS.lstore X0.here hx rfl (hb hby at_47) rfl (l' := #[.val (.long q0_), .second, .val (.int p1_), .val (.int p2_), .val (.long q3_), .second, .val (.long q4_), .second, .val (.int p5_), .val (.long ((q0_ &&& (1048575 : Int64)) + (1 : Int64))), .second, .val (.long ((2 : Int64) * ((q0_ &&& (1048575 : Int64)) + (1 : Int64)))), .second, .val (.int (1 : Int32)), .val (.long (((p1_.toInt64) * ((2 : Int64) * ((q0_ &&& (1048575 : Int64)) + (1 : Int64)))) + ((q0_ &&& (1048575 : Int64)) + (1 : Int64)))), .second, .unset, .unset, .unset, .unset, .unset]) rfl ?_
      show Steps p.tables e below (s₁.setTop (mkF m 49 #[.val (.long q0_), .second, .val (.int p1_), .val (.int p2_), .val (.long q3_), .second, .val (.long q4_), .second, .val (.int p5_), .val (.long ((q0_ &&& (1048575 : Int64)) + (1 : Int64))), .second, .val (.long ((2 : Int64) * ((q0_ &&& (1048575 : Int64)) + (1 : Int64)))), .second, .val (.int (1 : Int32)), .val (.long (((p1_.toInt64) * ((2 : Int64) * ((q0_ &&& (1048575 : Int64)) + (1 : Int64)))) + ((q0_ &&& (1048575 : Int64)) + (1 : Int64)))), .second, .unset, .unset, .unset, .unset, .unset] [])) _
      refine st20 _ ?_
      show Steps p.tables e below (T20.setTop (mkF m 52 #[.val (.long q0_), .second, .val (.int p1_), .val (.int p2_), .val (.long q3_), .second, .val (.long q4_), .second, .val (.int p5_), .val (.long ((q0_ &&& (1048575 : Int64)) + (1 : Int64))), .second, .val (.long ((2 : Int64) * ((q0_ &&& (1048575 : Int64)) + (1 : Int64)))), .second, .val (.int (1 : Int32)), .val (.long (((p1_.toInt64) * ((2 : Int64) * ((q0_ &&& (1048575 : Int64)) + (1 : Int64)))) + ((q0_ &&& (1048575 : Int64)) + (1 : Int64)))), .second, .unset, .unset, .unset, .unset, .unset] [(.ref b20)])) _
      refine XS.dup X20.here hx rfl (hb hby at_52) rfl rfl ?_
      show Steps p.tables e below (T20.setTop (mkF m 53 #[.val (.long q0_), .second, .val (.int p1_), .val (.int p2_), .val (.long q3_), .second, .val (.long q4_), .second, .val (.int p5_), .val (.long ((q0_ &&& (1048575 : Int64)) + (1 : Int64))), .second, .val (.long ((2 : Int64) * ((q0_ &&& (1048575 : Int64)) + (1 : Int64)))), .second, .val (.int (1 : Int32)), .val (.long (((p1_.toInt64) * ((2 : Int64) * ((q0_ &&& (1048575 : Int64)) + (1 : Int64)))) + ((q0_ &&& (1048575 : Int64)) + (1 : Int64)))), .second, .unset, .unset, .unset, .unset, .unset] [(.ref b20), (.ref b20)])) _
      refine XS.lload X20.here hx rfl (hb hby at_53) rfl ?_
      show Steps p.tables e below (T20.setTop (mkF m 55 #[.val (.long q0_), .second, .val (.int p1_), .val (.int p2_), .val (.long q3_), .second, .val (.long q4_), .second, .val (.int p5_), .val (.long ((q0_ &&& (1048575 : Int64)) + (1 : Int64))), .second, .val (.long ((2 : Int64) * ((q0_ &&& (1048575 : Int64)) + (1 : Int64)))), .second, .val (.int (1 : Int32)), .val (.long (((p1_.toInt64) * ((2 : Int64) * ((q0_ &&& (1048575 : Int64)) + (1 : Int64)))) + ((q0_ &&& (1048575 : Int64)) + (1 : Int64)))), .second, .unset, .unset, .unset, .unset, .unset] [(.long ((2 : Int64) * ((q0_ &&& (1048575 : Int64)) + (1 : Int64)))), (.ref b20), (.ref b20)])) _
      refine XS.lload X20.here hx rfl (hb hby at_55) rfl ?_
      show Steps p.tables e below (T20.setTop (mkF m 57 #[.val (.long q0_), .second, .val (.int p1_), .val (.int p2_), .val (.long q3_), .second, .val (.long q4_), .second, .val (.int p5_), .val (.long ((q0_ &&& (1048575 : Int64)) + (1 : Int64))), .second, .val (.long ((2 : Int64) * ((q0_ &&& (1048575 : Int64)) + (1 : Int64)))), .second, .val (.int (1 : Int32)), .val (.long (((p1_.toInt64) * ((2 : Int64) * ((q0_ &&& (1048575 : Int64)) + (1 : Int64)))) + ((q0_ &&& (1048575 : Int64)) + (1 : Int64)))), .second, .unset, .unset, .unset, .unset, .unset] [(.long (((p1_.toInt64) * ((2 : Int64) * ((q0_ &&& (1048575 : Int64)) + (1 : Int64)))) + ((q0_ &&& (1048575 : Int64)) + (1 : Int64)))), (.long ((2 : Int64) * ((q0_ &&& (1048575 : Int64)) + (1 : Int64)))), (.ref b20), (.ref b20)])) _
      refine XS.lload X20.here hx rfl (hb hby at_57) rfl ?_
      show Steps p.tables e below (T20.setTop (mkF m 59 #[.val (.long q0_), .second, .val (.int p1_), .val (.int p2_), .val (.long q3_), .second, .val (.long q4_), .second, .val (.int p5_), .val (.long ((q0_ &&& (1048575 : Int64)) + (1 : Int64))), .second, .val (.long ((2 : Int64) * ((q0_ &&& (1048575 : Int64)) + (1 : Int64)))), .second, .val (.int (1 : Int32)), .val (.long (((p1_.toInt64) * ((2 : Int64) * ((q0_ &&& (1048575 : Int64)) + (1 : Int64)))) + ((q0_ &&& (1048575 : Int64)) + (1 : Int64)))), .second, .unset, .unset, .unset, .unset, .unset] [(.long q3_), (.long (((p1_.toInt64) * ((2 : Int64) * ((q0_ &&& (1048575 : Int64)) + (1 : Int64)))) + ((q0_ &&& (1048575 : Int64)) + (1 : Int64)))), (.long ((2 : Int64) * ((q0_ &&& (1048575 : Int64)) + (1 : Int64)))), (.ref b20), (.ref b20)])) _
      refine XS.lload X20.here hx rfl (hb hby at_59) rfl ?_
      show Steps p.tables e below (T20.setTop (mkF m 61 #[.val (.long q0_), .second, .val (.int p1_), .val (.int p2_), .val (.long q3_), .second, .val (.long q4_), .second, .val (.int p5_), .val (.long ((q0_ &&& (1048575 : Int64)) + (1 : Int64))), .second, .val (.long ((2 : Int64) * ((q0_ &&& (1048575 : Int64)) + (1 : Int64)))), .second, .val (.int (1 : Int32)), .val (.long (((p1_.toInt64) * ((2 : Int64) * ((q0_ &&& (1048575 : Int64)) + (1 : Int64)))) + ((q0_ &&& (1048575 : Int64)) + (1 : Int64)))), .second, .unset, .unset, .unset, .unset, .unset] [(.long q4_), (.long q3_), (.long (((p1_.toInt64) * ((2 : Int64) * ((q0_ &&& (1048575 : Int64)) + (1 : Int64)))) + ((q0_ &&& (1048575 : Int64)) + (1 : Int64)))), (.long ((2 : Int64) * ((q0_ &&& (1048575 : Int64)) + (1 : Int64)))), (.ref b20), (.ref b20)])) _
      refine XS.iload X20.here hx rfl (hb hby at_61) rfl ?_
      show Steps p.tables e below (T20.setTop (mkF m 63 #[.val (.long q0_), .second, .val (.int p1_), .val (.int p2_), .val (.long q3_), .second, .val (.long q4_), .second, .val (.int p5_), .val (.long ((q0_ &&& (1048575 : Int64)) + (1 : Int64))), .second, .val (.long ((2 : Int64) * ((q0_ &&& (1048575 : Int64)) + (1 : Int64)))), .second, .val (.int (1 : Int32)), .val (.long (((p1_.toInt64) * ((2 : Int64) * ((q0_ &&& (1048575 : Int64)) + (1 : Int64)))) + ((q0_ &&& (1048575 : Int64)) + (1 : Int64)))), .second, .unset, .unset, .unset, .unset, .unset] [(.int p5_), (.long q4_), (.long q3_), (.long (((p1_.toInt64) * ((2 : Int64) * ((q0_ &&& (1048575 : Int64)) + (1 : Int64)))) + ((q0_ &&& (1048575 : Int64)) + (1 : Int64)))), (.long ((2 : Int64) * ((q0_ &&& (1048575 : Int64)) + (1 : Int64)))), (.ref b20), (.ref b20)])) _
      refine st28.trans ?_
      show Steps p.tables e below (T28.setTop (mkF m 66 #[.val (.long q0_), .second, .val (.int p1_), .val (.int p2_), .val (.long q3_), .second, .val (.long q4_), .second, .val (.int p5_), .val (.long ((q0_ &&& (1048575 : Int64)) + (1 : Int64))), .second, .val (.long ((2 : Int64) * ((q0_ &&& (1048575 : Int64)) + (1 : Int64)))), .second, .val (.int (1 : Int32)), .val (.long (((p1_.toInt64) * ((2 : Int64) * ((q0_ &&& (1048575 : Int64)) + (1 : Int64)))) + ((q0_ &&& (1048575 : Int64)) + (1 : Int64)))), .second, .unset, .unset, .unset, .unset, .unset] [(.ref b20)])) _
      refine XS.astore X28.here hx rfl (hb hby at_66) rfl rfl (l' := #[.val (.long q0_), .second, .val (.int p1_), .val (.int p2_), .val (.long q3_), .second, .val (.long q4_), .second, .val (.int p5_), .val (.long ((q0_ &&& (1048575 : Int64)) + (1 : Int64))), .second, .val (.long ((2 : Int64) * ((q0_ &&& (1048575 : Int64)) + (1 : Int64)))), .second, .val (.int (1 : Int32)), .val (.long (((p1_.toInt64) * ((2 : Int64) * ((q0_ &&& (1048575 : Int64)) + (1 : Int64)))) + ((q0_ &&& (1048575 : Int64)) + (1 : Int64)))), .second, .val (.ref b20), .unset, .unset, .unset, .unset]) rfl ?_
      show Steps p.tables e below (T28.setTop (mkF m 68 #[.val (.long q0_), .second, .val (.int p1_), .val (.int p2_), .val (.long q3_), .second, .val (.long q4_), .second, .val (.int p5_), .val (.long ((q0_ &&& (1048575 : Int64)) + (1 : Int64))), .second, .val (.long ((2 : Int64) * ((q0_ &&& (1048575 : Int64)) + (1 : Int64)))), .second, .val (.int (1 : Int32)), .val (.long (((p1_.toInt64) * ((2 : Int64) * ((q0_ &&& (1048575 : Int64)) + (1 : Int64)))) + ((q0_ &&& (1048575 : Int64)) + (1 : Int64)))), .second, .val (.ref b20), .unset, .unset, .unset, .unset] [])) _
      refine XS.aload X28.here hx rfl (hb hby at_68) rfl rfl ?_
      show Steps p.tables e below (T28.setTop (mkF m 70 #[.val (.long q0_), .second, .val (.int p1_), .val (.int p2_), .val (.long q3_), .second, .val (.long q4_), .second, .val (.int p5_), .val (.long ((q0_ &&& (1048575 : Int64)) + (1 : Int64))), .second, .val (.long ((2 : Int64) * ((q0_ &&& (1048575 : Int64)) + (1 : Int64)))), .second, .val (.int (1 : Int32)), .val (.long (((p1_.toInt64) * ((2 : Int64) * ((q0_ &&& (1048575 : Int64)) + (1 : Int64)))) + ((q0_ &&& (1048575 : Int64)) + (1 : Int64)))), .second, .val (.ref b20), .unset, .unset, .unset, .unset] [(.ref b20)])) _
      refine st32.trans ?_
      show Steps p.tables e below (T32.setTop (mkF m 73 #[.val (.long q0_), .second, .val (.int p1_), .val (.int p2_), .val (.long q3_), .second, .val (.long q4_), .second, .val (.int p5_), .val (.long ((q0_ &&& (1048575 : Int64)) + (1 : Int64))), .second, .val (.long ((2 : Int64) * ((q0_ &&& (1048575 : Int64)) + (1 : Int64)))), .second, .val (.int (1 : Int32)), .val (.long (((p1_.toInt64) * ((2 : Int64) * ((q0_ &&& (1048575 : Int64)) + (1 : Int64)))) + ((q0_ &&& (1048575 : Int64)) + (1 : Int64)))), .second, .val (.ref b20), .unset, .unset, .unset, .unset] [(.double (FP.ddiv (FP.l2d (((p1_.toInt64) * ((2 : Int64) * ((q0_ &&& (1048575 : Int64)) + (1 : Int64)))) + ((q0_ &&& (1048575 : Int64)) + (1 : Int64)))) (FP.l2d ((2 : Int64) * ((q0_ &&& (1048575 : Int64)) + (1 : Int64))))))])) _
      refine XS.dstore X32.here hx rfl (hb hby at_73) rfl (l' := #[.val (.long q0_), .second, .val (.int p1_), .val (.int p2_), .val (.long q3_), .second, .val (.long q4_), .second, .val (.int p5_), .val (.long ((q0_ &&& (1048575 : Int64)) + (1 : Int64))), .second, .val (.long ((2 : Int64) * ((q0_ &&& (1048575 : Int64)) + (1 : Int64)))), .second, .val (.int (1 : Int32)), .val (.long (((p1_.toInt64) * ((2 : Int64) * ((q0_ &&& (1048575 : Int64)) + (1 : Int64)))) + ((q0_ &&& (1048575 : Int64)) + (1 : Int64)))), .second, .val (.ref b20), .val (.double (FP.ddiv (FP.l2d (((p1_.toInt64) * ((2 : Int64) * ((q0_ &&& (1048575 : Int64)) + (1 : Int64)))) + ((q0_ &&& (1048575 : Int64)) + (1 : Int64)))) (FP.l2d ((2 : Int64) * ((q0_ &&& (1048575 : Int64)) + (1 : Int64)))))), .second, .unset, .unset]) rfl ?_
      show Steps p.tables e below (T32.setTop (mkF m 75 #[.val (.long q0_), .second, .val (.int p1_), .val (.int p2_), .val (.long q3_), .second, .val (.long q4_), .second, .val (.int p5_), .val (.long ((q0_ &&& (1048575 : Int64)) + (1 : Int64))), .second, .val (.long ((2 : Int64) * ((q0_ &&& (1048575 : Int64)) + (1 : Int64)))), .second, .val (.int (1 : Int32)), .val (.long (((p1_.toInt64) * ((2 : Int64) * ((q0_ &&& (1048575 : Int64)) + (1 : Int64)))) + ((q0_ &&& (1048575 : Int64)) + (1 : Int64)))), .second, .val (.ref b20), .val (.double (FP.ddiv (FP.l2d (((p1_.toInt64) * ((2 : Int64) * ((q0_ &&& (1048575 : Int64)) + (1 : Int64)))) + ((q0_ &&& (1048575 : Int64)) + (1 : Int64)))) (FP.l2d ((2 : Int64) * ((q0_ &&& (1048575 : Int64)) + (1 : Int64)))))), .second, .unset, .unset] [])) _
      refine XS.iload X32.here hx rfl (hb hby at_75) rfl ?_
      show Steps p.tables e below (T32.setTop (mkF m 77 #[.val (.long q0_), .second, .val (.int p1_), .val (.int p2_), .val (.long q3_), .second, .val (.long q4_), .second, .val (.int p5_), .val (.long ((q0_ &&& (1048575 : Int64)) + (1 : Int64))), .second, .val (.long ((2 : Int64) * ((q0_ &&& (1048575 : Int64)) + (1 : Int64)))), .second, .val (.int (1 : Int32)), .val (.long (((p1_.toInt64) * ((2 : Int64) * ((q0_ &&& (1048575 : Int64)) + (1 : Int64)))) + ((q0_ &&& (1048575 : Int64)) + (1 : Int64)))), .second, .val (.ref b20), .val (.double (FP.ddiv (FP.l2d (((p1_.toInt64) * ((2 : Int64) * ((q0_ &&& (1048575 : Int64)) + (1 : Int64)))) + ((q0_ &&& (1048575 : Int64)) + (1 : Int64)))) (FP.l2d ((2 : Int64) * ((q0_ &&& (1048575 : Int64)) + (1 : Int64)))))), .second, .unset, .unset] [(.int (1 : Int32))])) _
      refine XS.ifNo X32.here hx rfl (hb hby at_77) rfl ((if0 _ _).trans (feq (by decide : ¬ ((1 : Int32) = (0 : Int32)))).1) ?_
      show Steps p.tables e below (T32.setTop (mkF m 80 #[.val (.long q0_), .second, .val (.int p1_), .val (.int p2_), .val (.long q3_), .second, .val (.long q4_), .second, .val (.int p5_), .val (.long ((q0_ &&& (1048575 : Int64)) + (1 : Int64))), .second, .val (.long ((2 : Int64) * ((q0_ &&& (1048575 : Int64)) + (1 : Int64)))), .second, .val (.int (1 : Int32)), .val (.long (((p1_.toInt64) * ((2 : Int64) * ((q0_ &&& (1048575 : Int64)) + (1 : Int64)))) + ((q0_ &&& (1048575 : Int64)) + (1 : Int64)))), .second, .val (.ref b20), .val (.double (FP.ddiv (FP.l2d (((p1_.toInt64) * ((2 : Int64) * ((q0_ &&& (1048575 : Int64)) + (1 : Int64)))) + ((q0_ &&& (1048575 : Int64)) + (1 : Int64)))) (FP.l2d ((2 : Int64) * ((q0_ &&& (1048575 : Int64)) + (1 : Int64)))))), .second, .unset, .unset] [])) _
      refine XS.iloadN X32.here hx rfl (hb hby at_80) rfl ?_
      show Steps p.tables e below (T32.setTop (mkF m 81 #[.val (.long q0_), .second, .val (.int p1_), .val (.int p2_), .val (.long q3_), .second, .val (.long q4_), .second, .val (.int p5_), .val (.long ((q0_ &&& (1048575 : Int64)) + (1 : Int64))), .second, .val (.long ((2 : Int64) * ((q0_ &&& (1048575 : Int64)) + (1 : Int64)))), .second, .val (.int (1 : Int32)), .val (.long (((p1_.toInt64) * ((2 : Int64) * ((q0_ &&& (1048575 : Int64)) + (1 : Int64)))) + ((q0_ &&& (1048575 : Int64)) + (1 : Int64)))), .second, .val (.ref b20), .val (.double (FP.ddiv (FP.l2d (((p1_.toInt64) * ((2 : Int64) * ((q0_ &&& (1048575 : Int64)) + (1 : Int64)))) + ((q0_ &&& (1048575 : Int64)) + (1 : Int64)))) (FP.l2d ((2 : Int64) * ((q0_ &&& (1048575 : Int64)) + (1 : Int64)))))), .second, .unset, .unset] [(.int p1_)])) _
      refine XS.i2dS X32.here hx rfl (hb hby at_81) rfl rfl ?_
      show Steps p.tables e below (T32.setTop (mkF m 82 #[.val (.long q0_), .second, .val (.int p1_), .val (.int p2_), .val (.long q3_), .second, .val (.long q4_), .second, .val (.int p5_), .val (.long ((q0_ &&& (1048575 : Int64)) + (1 : Int64))), .second, .val (.long ((2 : Int64) * ((q0_ &&& (1048575 : Int64)) + (1 : Int64)))), .second, .val (.int (1 : Int32)), .val (.long (((p1_.toInt64) * ((2 : Int64) * ((q0_ &&& (1048575 : Int64)) + (1 : Int64)))) + ((q0_ &&& (1048575 : Int64)) + (1 : Int64)))), .second, .val (.ref b20), .val (.double (FP.ddiv (FP.l2d (((p1_.toInt64) * ((2 : Int64) * ((q0_ &&& (1048575 : Int64)) + (1 : Int64)))) + ((q0_ &&& (1048575 : Int64)) + (1 : Int64)))) (FP.l2d ((2 : Int64) * ((q0_ &&& (1048575 : Int64)) + (1 : Int64)))))), .second, .unset, .unset] [(.double (FP.i2d p1_))])) _
      refine X32.ldc2DoubleC hx hown (mvT hZ (hw _ (List.mem_of_getElem? (i := 31) rfl))) (g := (mkF m 82 #[.val (.long q0_), .second, .val (.int p1_), .val (.int p2_), .val (.long q3_), .second, .val (.long q4_), .second, .val (.int p5_), .val (.long ((q0_ &&& (1048575 : Int64)) + (1 : Int64))), .second, .val (.long ((2 : Int64) * ((q0_ &&& (1048575 : Int64)) + (1 : Int64)))), .second, .val (.int (1 : Int32)), .val (.long (((p1_.toInt64) * ((2 : Int64) * ((q0_ &&& (1048575 : Int64)) + (1 : Int64)))) + ((q0_ &&& (1048575 : Int64)) + (1 : Int64)))), .second, .val (.ref b20), .val (.double (FP.ddiv (FP.l2d (((p1_.toInt64) * ((2 : Int64) * ((q0_ &&& (1048575 : Int64)) + (1 : Int64)))) + ((q0_ &&& (1048575 : Int64)) + (1 : Int64)))) (FP.l2d ((2 : Int64) * ((q0_ &&& (1048575 : Int64)) + (1 : Int64)))))), .second, .unset, .unset] [(.double (FP.i2d p1_))])) rfl (hb hby at_82) _ ?_
      show Steps p.tables e below (T32.setTop (mkF m 85 #[.val (.long q0_), .second, .val (.int p1_), .val (.int p2_), .val (.long q3_), .second, .val (.long q4_), .second, .val (.int p5_), .val (.long ((q0_ &&& (1048575 : Int64)) + (1 : Int64))), .second, .val (.long ((2 : Int64) * ((q0_ &&& (1048575 : Int64)) + (1 : Int64)))), .second, .val (.int (1 : Int32)), .val (.long (((p1_.toInt64) * ((2 : Int64) * ((q0_ &&& (1048575 : Int64)) + (1 : Int64)))) + ((q0_ &&& (1048575 : Int64)) + (1 : Int64)))), .second, .val (.ref b20), .val (.double (FP.ddiv (FP.l2d (((p1_.toInt64) * ((2 : Int64) * ((q0_ &&& (1048575 : Int64)) + (1 : Int64)))) + ((q0_ &&& (1048575 : Int64)) + (1 : Int64)))) (FP.l2d ((2 : Int64) * ((q0_ &&& (1048575 : Int64)) + (1 : Int64)))))), .second, .unset, .unset] [(.double (4602678819172646912 : UInt64)), (.double (FP.i2d p1_))])) _
      refine XS.daddS X32.here hx rfl (hb hby at_85) rfl (own_nn (own_half p1_)) rfl ?_
      show Steps p.tables e below (T32.setTop (mkF m 86 #[.val (.long q0_), .second, .val (.int p1_), .val (.int p2_), .val (.long q3_), .second, .val (.long q4_), .second, .val (.int p5_), .val (.long ((q0_ &&& (1048575 : Int64)) + (1 : Int64))), .second, .val (.long ((2 : Int64) * ((q0_ &&& (1048575 : Int64)) + (1 : Int64)))), .second, .val (.int (1 : Int32)), .val (.long (((p1_.toInt64) * ((2 : Int64) * ((q0_ &&& (1048575 : Int64)) + (1 : Int64)))) + ((q0_ &&& (1048575 : Int64)) + (1 : Int64)))), .second, .val (.ref b20), .val (.double (FP.ddiv (FP.l2d (((p1_.toInt64) * ((2 : Int64) * ((q0_ &&& (1048575 : Int64)) + (1 : Int64)))) + ((q0_ &&& (1048575 : Int64)) + (1 : Int64)))) (FP.l2d ((2 : Int64) * ((q0_ &&& (1048575 : Int64)) + (1 : Int64)))))), .second, .unset, .unset] [(.double (FP.dadd (FP.i2d p1_) (4602678819172646912 : UInt64)))])) _
      refine XS.goto X32.here hx rfl (pc0 := 86) (pc' := 91) rfl (hb hby at_86) (by decide) (by decide) ?_
      show Steps p.tables e below (T32.setTop (mkF m 91 #[.val (.long q0_), .second, .val (.int p1_), .val (.int p2_), .val (.long q3_), .second, .val (.long q4_), .second, .val (.int p5_), .val (.long ((q0_ &&& (1048575 : Int64)) + (1 : Int64))), .second, .val (.long ((2 : Int64) * ((q0_ &&& (1048575 : Int64)) + (1 : Int64)))), .second, .val (.int (1 : Int32)), .val (.long (((p1_.toInt64) * ((2 : Int64) * ((q0_ &&& (1048575 : Int64)) + (1 : Int64)))) + ((q0_ &&& (1048575 : Int64)) + (1 : Int64)))), .second, .val (.ref b20), .val (.double (FP.ddiv (FP.l2d (((p1_.toInt64) * ((2 : Int64) * ((q0_ &&& (1048575 : Int64)) + (1 : Int64)))) + ((q0_ &&& (1048575 : Int64)) + (1 : Int64)))) (FP.l2d ((2 : Int64) * ((q0_ &&& (1048575 : Int64)) + (1 : Int64)))))), .second, .unset, .unset] [(.double (FP.dadd (FP.i2d p1_) (4602678819172646912 : UInt64)))])) _
      refine XS.dstore X32.here hx rfl (hb hby at_91) rfl (l' := #[.val (.long q0_), .second, .val (.int p1_), .val (.int p2_), .val (.long q3_), .second, .val (.long q4_), .second, .val (.int p5_), .val (.long ((q0_ &&& (1048575 : Int64)) + (1 : Int64))), .second, .val (.long ((2 : Int64) * ((q0_ &&& (1048575 : Int64)) + (1 : Int64)))), .second, .val (.int (1 : Int32)), .val (.long (((p1_.toInt64) * ((2 : Int64) * ((q0_ &&& (1048575 : Int64)) + (1 : Int64)))) + ((q0_ &&& (1048575 : Int64)) + (1 : Int64)))), .second, .val (.ref b20), .val (.double (FP.ddiv (FP.l2d (((p1_.toInt64) * ((2 : Int64) * ((q0_ &&& (1048575 : Int64)) + (1 : Int64)))) + ((q0_ &&& (1048575 : Int64)) + (1 : Int64)))) (FP.l2d ((2 : Int64) * ((q0_ &&& (1048575 : Int64)) + (1 : Int64)))))), .second, .val (.double (FP.dadd (FP.i2d p1_) (4602678819172646912 : UInt64))), .second]) rfl ?_
      show Steps p.tables e below (T32.setTop (mkF m 93 #[.val (.long q0_), .second, .val (.int p1_), .val (.int p2_), .val (.long q3_), .second, .val (.long q4_), .second, .val (.int p5_), .val (.long ((q0_ &&& (1048575 : Int64)) + (1 : Int64))), .second, .val (.long ((2 : Int64) * ((q0_ &&& (1048575 : Int64)) + (1 : Int64)))), .second, .val (.int (1 : Int32)), .val (.long (((p1_.toInt64) * ((2 : Int64) * ((q0_ &&& (1048575 : Int64)) + (1 : Int64)))) + ((q0_ &&& (1048575 : Int64)) + (1 : Int64)))), .second, .val (.ref b20), .val (.double (FP.ddiv (FP.l2d (((p1_.toInt64) * ((2 : Int64) * ((q0_ &&& (1048575 : Int64)) + (1 : Int64)))) + ((q0_ &&& (1048575 : Int64)) + (1 : Int64)))) (FP.l2d ((2 : Int64) * ((q0_ &&& (1048575 : Int64)) + (1 : Int64)))))), .second, .val (.double (FP.dadd (FP.i2d p1_) (4602678819172646912 : UInt64))), .second] [])) _
      refine XS.dload X32.here hx rfl (hb hby at_93) rfl ?_
      show Steps p.tables e below (T32.setTop (mkF m 95 #[.val (.long q0_), .second, .val (.int p1_), .val (.int p2_), .val (.long q3_), .second, .val (.long q4_), .second, .val (.int p5_), .val (.long ((q0_ &&& (1048575 : Int64)) + (1 : Int64))), .second, .val (.long ((2 : Int64) * ((q0_ &&& (1048575 : Int64)) + (1 : Int64)))), .second, .val (.int (1 : Int32)), .val (.long (((p1_.toInt64) * ((2 : Int64) * ((q0_ &&& (1048575 : Int64)) + (1 : Int64)))) + ((q0_ &&& (1048575 : Int64)) + (1 : Int64)))), .second, .val (.ref b20), .val (.double (FP.ddiv (FP.l2d (((p1_.toInt64) * ((2 : Int64) * ((q0_ &&& (1048575 : Int64)) + (1 : Int64)))) + ((q0_ &&& (1048575 : Int64)) + (1 : Int64)))) (FP.l2d ((2 : Int64) * ((q0_ &&& (1048575 : Int64)) + (1 : Int64)))))), .second, .val (.double (FP.dadd (FP.i2d p1_) (4602678819172646912 : UInt64))), .second] [(.double (FP.ddiv (FP.l2d (((p1_.toInt64) * ((2 : Int64) * ((q0_ &&& (1048575 : Int64)) + (1 : Int64)))) + ((q0_ &&& (1048575 : Int64)) + (1 : Int64)))) (FP.l2d ((2 : Int64) * ((q0_ &&& (1048575 : Int64)) + (1 : Int64))))))])) _
      refine XS.dload X32.here hx rfl (hb hby at_95) rfl ?_
      show Steps p.tables e below (T32.setTop (mkF m 97 #[.val (.long q0_), .second, .val (.int p1_), .val (.int p2_), .val (.long q3_), .second, .val (.long q4_), .second, .val (.int p5_), .val (.long ((q0_ &&& (1048575 : Int64)) + (1 : Int64))), .second, .val (.long ((2 : Int64) * ((q0_ &&& (1048575 : Int64)) + (1 : Int64)))), .second, .val (.int (1 : Int32)), .val (.long (((p1_.toInt64) * ((2 : Int64) * ((q0_ &&& (1048575 : Int64)) + (1 : Int64)))) + ((q0_ &&& (1048575 : Int64)) + (1 : Int64)))), .second, .val (.ref b20), .val (.double (FP.ddiv (FP.l2d (((p1_.toInt64) * ((2 : Int64) * ((q0_ &&& (1048575 : Int64)) + (1 : Int64)))) + ((q0_ &&& (1048575 : Int64)) + (1 : Int64)))) (FP.l2d ((2 : Int64) * ((q0_ &&& (1048575 : Int64)) + (1 : Int64)))))), .second, .val (.double (FP.dadd (FP.i2d p1_) (4602678819172646912 : UInt64))), .second] [(.double (FP.dadd (FP.i2d p1_) (4602678819172646912 : UInt64))), (.double (FP.ddiv (FP.l2d (((p1_.toInt64) * ((2 : Int64) * ((q0_ &&& (1048575 : Int64)) + (1 : Int64)))) + ((q0_ &&& (1048575 : Int64)) + (1 : Int64)))) (FP.l2d ((2 : Int64) * ((q0_ &&& (1048575 : Int64)) + (1 : Int64))))))])) _
      refine XS.dcmpS X32.here hx rfl (hb hby at_97) rfl rfl ?_
      show Steps p.tables e below (T32.setTop (mkF m 98 #[.val (.long q0_), .second, .val (.int p1_), .val (.int p2_), .val (.long q3_), .second, .val (.long q4_), .second, .val (.int p5_), .val (.long ((q0_ &&& (1048575 : Int64)) + (1 : Int64))), .second, .val (.long ((2 : Int64) * ((q0_ &&& (1048575 : Int64)) + (1 : Int64)))), .second, .val (.int (1 : Int32)), .val (.long (((p1_.toInt64) * ((2 : Int64) * ((q0_ &&& (1048575 : Int64)) + (1 : Int64)))) + ((q0_ &&& (1048575 : Int64)) + (1 : Int64)))), .second, .val (.ref b20), .val (.double (FP.ddiv (FP.l2d (((p1_.toInt64) * ((2 : Int64) * ((q0_ &&& (1048575 : Int64)) + (1 : Int64)))) + ((q0_ &&& (1048575 : Int64)) + (1 : Int64)))) (FP.l2d ((2 : Int64) * ((q0_ &&& (1048575 : Int64)) + (1 : Int64)))))), .second, .val (.double (FP.dadd (FP.i2d p1_) (4602678819172646912 : UInt64))), .second] [(.int (cmpValue (FP.dcmp (FP.ddiv (FP.l2d (((p1_.toInt64) * ((2 : Int64) * ((q0_ &&& (1048575 : Int64)) + (1 : Int64)))) + ((q0_ &&& (1048575 : Int64)) + (1 : Int64)))) (FP.l2d ((2 : Int64) * ((q0_ &&& (1048575 : Int64)) + (1 : Int64))))) (FP.dadd (FP.i2d p1_) (4602678819172646912 : UInt64))) .l))])) _
      refine XS.ifNo X32.here hx rfl (hb hby at_98) rfl ((if0 _ _).trans (teq (own_got1 q0_ p1_)).2) ?_
      show Steps p.tables e below (T32.setTop (mkF m 101 #[.val (.long q0_), .second, .val (.int p1_), .val (.int p2_), .val (.long q3_), .second, .val (.long q4_), .second, .val (.int p5_), .val (.long ((q0_ &&& (1048575 : Int64)) + (1 : Int64))), .second, .val (.long ((2 : Int64) * ((q0_ &&& (1048575 : Int64)) + (1 : Int64)))), .second, .val (.int (1 : Int32)), .val (.long (((p1_.toInt64) * ((2 : Int64) * ((q0_ &&& (1048575 : Int64)) + (1 : Int64)))) + ((q0_ &&& (1048575 : Int64)) + (1 : Int64)))), .second, .val (.ref b20), .val (.double (FP.ddiv (FP.l2d (((p1_.toInt64) * ((2 : Int64) * ((q0_ &&& (1048575 : Int64)) + (1 : Int64)))) + ((q0_ &&& (1048575 : Int64)) + (1 : Int64)))) (FP.l2d ((2 : Int64) * ((q0_ &&& (1048575 : Int64)) + (1 : Int64)))))), .second, .val (.double (FP.dadd (FP.i2d p1_) (4602678819172646912 : UInt64))), .second] [])) _
      refine XS.iconst X32.here hx rfl (hb hby at_101) ?_
      show Steps p.tables e below (T32.setTop (mkF m 102 #[.val (.long q0_), .second, .val (.int p1_), .val (.int p2_), .val (.long q3_), .second, .val (.long q4_), .second, .val (.int p5_), .val (.long ((q0_ &&& (1048575 : Int64)) + (1 : Int64))), .second, .val (.long ((2 : Int64) * ((q0_ &&& (1048575 : Int64)) + (1 : Int64)))), .second, .val (.int (1 : Int32)), .val (.long (((p1_.toInt64) * ((2 : Int64) * ((q0_ &&& (1048575 : Int64)) + (1 : Int64)))) + ((q0_ &&& (1048575 : Int64)) + (1 : Int64)))), .second, .val (.ref b20), .val (.double (FP.ddiv (FP.l2d (((p1_.toInt64) * ((2 : Int64) * ((q0_ &&& (1048575 : Int64)) + (1 : Int64)))) + ((q0_ &&& (1048575 : Int64)) + (1 : Int64)))) (FP.l2d ((2 : Int64) * ((q0_ &&& (1048575 : Int64)) + (1 : Int64)))))), .second, .val (.double (FP.dadd (FP.i2d p1_) (4602678819172646912 : UInt64))), .second] [(.int (1 : Int32))])) _
      refine XS.goto X32.here hx rfl (pc0 := 102) (pc' := 106) rfl (hb hby at_102) (by decide) (by decide) ?_
      exact kt
    obtain ⟨fs, hr, hrun, hended, hW, hsame⟩ := X32.leave (v := some (.int (1 : Int32))) (fun h => by rw [Bd.returns] at h; cases h)
    refine ⟨_, _, pre35 _ (retN X32 hx (t := .boolean) Bd.returns (by simp) (hb hby at_106) hr), hrun, hended, _, _, rfl, ?_, ⟨_, rfl⟩, hW, hsame.mono (by decide) (by decide)⟩
    show QLaw Z q0_ p1_ p2_ q3_ q4_ p5_ h0 n0 _ T32.heap _
    rw [e32']
    exact ⟨rfl, N34⟩
set_option maxRecDepth 65536 in
set_option maxHeartbeats 40000000 in
theorem comes_1 {Post : Tables → Env → Array Value → State → Outcome → State → Prop} (hpost : ∀ tb e args s v u, (limb_1_1.after args s (.returned v) u = true ∧ limb_1_2.after args s (.returned v) u = true ∧ True) → FrameEnd s (.returned v) u (Jvm.fieldLocs frame_1_writes args s ++ Jvm.arrayLocs frame_1_arrays args s ++ Jvm.staticLocs frame_1_statics s) 16 128 → Post tb e args s (.returned v) u) :
    ArmFor flags0 classFile x code maxLocals ret World_1 tables_1 room_1 Calls_1 rest_1 Pre_1 Post := by
  intro l hfl _ _ p e ha hc hk s m args below hf hA hF happ hP
  obtain ⟨hcalls, hrest, hpre⟩ := hP
  obtain ⟨-, -, -, hnamed, -, -, -, hat⟩ := (Spec.applies_iff hf).mp happ
  obtain ⟨hg, hn⟩ := and_e (Cond.before_iff.mp (show (Jvm.Cond.and given_1 narrow_1).before args s = true from hpre))
  obtain ⟨g1, g2⟩ := and_e hg
  obtain ⟨g3, g4⟩ := and_e g2
  obtain ⟨g5, g6⟩ := and_e g4
  obtain ⟨g7, g8⟩ := and_e g6
  obtain ⟨g9, g10⟩ := and_e g8
  obtain ⟨g11, g12⟩ := and_e g10
  obtain ⟨w0, w1, w2, w3, w4, w5, rfl⟩ : ∃ w0 w1 w2 w3 w4 w5 : Value, args = #[w0, w1, w2, w3, w4, w5] := by
    have hs : args.size = 6 := by simpa [Cond.value, given_1] using g1
    obtain ⟨L⟩ := args
    match L, hs with
    | [w0, w1, w2, w3, w4, w5], _ => exact ⟨w0, w1, w2, w3, w4, w5, rfl⟩
  have hw := fun d (hd : d ∈ tables_1) => atoms_spec (ws := Jvm.Cond.code x code maxLocals ret :: tables_1) hat d (List.mem_cons_of_mem _ hd)
  have hfit : Fit s := fun {y c} hc i hi => by
    obtain ⟨ha, rfl⟩ := Array.getElem?_eq_some_iff.mp hc
    have q := List.all_eq_true.mp ((Array.all_eq_true_iff_forall_mem.mp hF) _ (Array.getElem_mem ha)) i (List.mem_range.mpr hi)
    simpa [Array.getElem?_eq_getElem hi] using q
  obtain ⟨i0, ei0⟩ := isL_v g3
  obtain rfl : w0 = (.long i0) := Option.some.inj ei0
  obtain ⟨i1, ei1⟩ := is_v g5
  obtain rfl : w1 = (.int i1) := Option.some.inj ei1
  obtain ⟨i2, ei2⟩ := is_v g7
  obtain rfl : w2 = (.int i2) := Option.some.inj ei2
  obtain ⟨i3, ei3⟩ := isL_v g9
  obtain rfl : w3 = (.long i3) := Option.some.inj ei3
  obtain ⟨i4, ei4⟩ := isL_v g11
  obtain rfl : w4 = (.long i4) := Option.some.inj ei4
  obtain ⟨i5, ei5⟩ := is_v g12
  obtain rfl : w5 = (.int i5) := Option.some.inj ei5
  obtain ⟨n, o, h1, h2, h3, _, L, rfl, ⟨rfl, N⟩, hq⟩ := rmLaw l s _ hw tables_1 i0 i1 i2 i3 i4 i5 s.heap s.heap.size (Old.start s)  p e ha hc hk s m _ below hf ((Spec.applies_iff_loose hf).mp happ).1 ⟨rfl, State.Warmed39.refl s, rfl⟩ trivial
  refine ⟨n, _, h1, h2, h3, hpost _ _ _ _ _ _ ⟨Cond.after_iff.mpr rfl, Cond.after_iff.mpr (eq_i res_at (Term.int_eval (1)) rfl), trivial⟩ ⟨hq.1, hq.2.1, (hq.2.2.sift fun y hy => Or.inr (N y hy)).mono (by decide) (by decide)⟩⟩
theorem main_1_1 : Claimed_1_1 := comes_1 fun _ _ _ _ _ _ h hF => ⟨h.1, hF⟩
theorem main_1_2 : Claimed_1_2 := comes_1 fun _ _ _ _ _ _ h hF => ⟨h.2.1, hF⟩
end Jvm.Pilot.@@N@@
namespace Jvm.Pilot.@@N@@
open Jvm Jvm.ClassFile Sem Op Lib Jvm.Free Jvm.Stand Jvm.Pilot.@@N@@.Jvm.D
/-! MADE BY PROGRAM (witnessworld.py) out of the Statement's table words and the real class files: 10 classes; the members and pool entries that the words name. The judged class is class 1, her method 1. -/
namespace start1
open Jvm.ClassFile
def u (s : String) : CpInfo := .utf8 (stringToUtf16 s)
/-- a pool by its gaps: so many unusable entries, then the entry; so many at the end -/
def gap : Nat → List CpInfo → List CpInfo
  | 0, r => r
  | n + 1, r => .unusable :: gap n r
def poolList (es : List (Nat × CpInfo)) (last : Nat) : List CpInfo := es.foldr (fun e r => gap e.1 (e.2 :: r)) (gap last [])
def pool (es : List (Nat × CpInfo)) (last : Nat) : Array CpInfo := ⟨poolList es last⟩
def fileOf (pool : Array CpInfo) (this : Nat) (attrs : Array Attribute := #[]) (ms : Array MethodInfo := #[]) (fl : Nat := 33) (sup : Nat := 0) (ifs : Array Nat := #[]) (fds : Array FieldInfo := #[]) : ClassFile where
  minorVersion := 0
  majorVersion := 65
  constantPool := pool
  accessFlags := fl
  thisClass := this
  superClass := sup
  interfaces := ifs
  fields := fds
  methods := ms
  attributes := attrs
def plain (name : String) (sup : Option ClassId) : Class where
  name := name
  kind := .ordinary
  loader := none
  accessFlags := 33
  super := sup
  interfaces := #[]
  cf := none
  fields := #[]
  methods := #[]
  instanceTypes := #[]
  staticTypes := #[]
  resolved := #[]
  callSites := []
  init := .initialized
  statics := none
  mirror := none

def pool0 : Array CpInfo := pool [(5, u "<init>"), (0, u "()V"), (1, .class_ 10), (1, u "java/lang/Object")] 113

def k0c0 : Code := { maxStack := 0, maxLocals := 1, code := object_method_1_code, exceptionTable := #[], attributes := #[] }
def k0m0 : Method := { name := "<init>", desc := "()V", sig := { parameters := [], returnType := none }, accessFlags := 1, code := some k0c0 }
/-- java/lang/Object -/
def k0 : Class := { plain "java/lang/Object" none with
  accessFlags := 33
  interfaces := #[]
  cf := some (fileOf pool0 8 #[] #[{ accessFlags := 1, nameIndex := 5, descriptorIndex := 6, attributes := #[] }] 33 0 #[] #[])
  fields := #[]
  methods := #[k0m0]
  instanceTypes := #[]
  staticTypes := #[]
  resolved := Array.replicate 124 none
  statics := none }

def pool1 : Array CpInfo := pool [(2, .class_ 4), (1, u "java/lang/Object"), (0, u "<init>"), (0, u "()V"), (0, .long 1048575), (1, .long 2), (1, .class_ 12), (0, u "latchwork/cli/LockLoop$Round"), (0, .methodref 11 14), (0, .nameAndType 5 15), (0, u "(JJJJI)V"), (0, .methodref 11 17), (0, .nameAndType 18 19), (0, u "cpuPerWall"), (0, u "()D"), (0, .double 4602678819172646912), (1, .class_ 23), (0, u "latchwork/cli/RoundCpuPerWallPinLaw"), (2, u "law"), (0, u "(JIIJJI)Z")] 7

def k1m0 : Method := { name := "<init>", desc := "()V", sig := { parameters := [], returnType := none }, accessFlags := 1, code := none }
def k1c1 : Code := { maxStack := 11, maxLocals := 21, code := code, exceptionTable := #[], attributes := #[] }
def k1m1 : Method := { name := "law", desc := "(JIIJJI)Z", sig := { parameters := [.long, .int, .int, .long, .long, .int], returnType := some .boolean }, accessFlags := 9, code := some k1c1 }
/-- latchwork/cli/RoundCpuPerWallPinLaw -/
def k1 : Class := { plain "latchwork/cli/RoundCpuPerWallPinLaw" (some 0) with
  accessFlags := 49
  interfaces := #[]
  cf := some (fileOf pool1 22 #[] #[{ accessFlags := 1, nameIndex := 5, descriptorIndex := 6, attributes := #[] }, { accessFlags := 9, nameIndex := 26, descriptorIndex := 27, attributes := #[] }] 49 2 #[] #[])
  fields := #[]
  methods := #[k1m0, k1m1]
  instanceTypes := #[]
  staticTypes := #[]
  resolved := Array.replicate 35 none
  statics := none }

def pool2 : Array CpInfo := pool [(1, .methodref 2 3), (0, .class_ 4), (0, .nameAndType 5 6), (0, u "java/lang/Object"), (0, u "<init>"), (0, u "()V"), (0, .class_ 8), (0, u "java/lang/Record")] 13

def k2c0 : Code := { maxStack := 1, maxLocals := 1, code := jdk_30_method_1_code, exceptionTable := #[], attributes := #[] }
def k2m0 : Method := { name := "<init>", desc := "()V", sig := { parameters := [], returnType := none }, accessFlags := 4, code := some k2c0 }
/-- java/lang/Record -/
def k2 : Class := { plain "java/lang/Record" (some 0) with
  accessFlags := 1057
  interfaces := #[]
  cf := some (fileOf pool2 7 #[] #[{ accessFlags := 4, nameIndex := 5, descriptorIndex := 6, attributes := #[] }] 1057 2 #[] #[])
  fields := #[]
  methods := #[k2m0]
  instanceTypes := #[]
  staticTypes := #[]
  resolved := Array.replicate 22 none
  statics := none }

def pool3 : Array CpInfo := pool [(1, .methodref 2 3), (0, .class_ 4), (0, .nameAndType 5 6), (0, u "java/lang/Record"), (0, u "<init>"), (0, u "()V"), (0, .fieldref 8 9), (0, .class_ 10), (0, .nameAndType 11 12), (0, u "latchwork/cli/LockLoop$Round"), (0, u "wallNanos"), (0, u "J"), (0, .fieldref 8 14), (0, .nameAndType 15 12), (0, u "cpuNanos"), (0, .fieldref 8 17), (0, .nameAndType 18 12), (0, u "ops"), (0, .fieldref 8 20), (0, .nameAndType 21 12), (0, u "counted"), (0, .fieldref 8 23), (0, .nameAndType 24 25), (0, u "stranded"), (0, u "I"), (12, u "(JJJJI)V"), (4, u "()D"), (0, u "cpuPerWall"), (7, .class_ 53), (0, u "latchwork/cli/LockLoop")] 23

def k3c0 : Code := { maxStack := 3, maxLocals := 10, code := prog_18_method_1_code, exceptionTable := #[], attributes := #[] }
def k3m0 : Method := { name := "<init>", desc := "(JJJJI)V", sig := { parameters := [.long, .long, .long, .long, .int], returnType := none }, accessFlags := 0, code := some k3c0 }
def k3c1 : Code := { maxStack := 4, maxLocals := 1, code := prog_18_method_3_code, exceptionTable := #[], attributes := #[] }
def k3m1 : Method := { name := "cpuPerWall", desc := "()D", sig := { parameters := [], returnType := some .double }, accessFlags := 0, code := some k3c1 }
/-- latchwork/cli/LockLoop$Round -/
def k3 : Class := { plain "latchwork/cli/LockLoop$Round" (some 2) with
  accessFlags := 48
  interfaces := #[]
  cf := some (fileOf pool3 8 #[.nestHost 52] #[{ accessFlags := 0, nameIndex := 5, descriptorIndex := 38, attributes := #[] }, { accessFlags := 0, nameIndex := 44, descriptorIndex := 43, attributes := #[] }] 48 2 #[] #[{ accessFlags := 18, nameIndex := 11, descriptorIndex := 12, attributes := #[] }, { accessFlags := 18, nameIndex := 15, descriptorIndex := 12, attributes := #[] }, { accessFlags := 18, nameIndex := 18, descriptorIndex := 12, attributes := #[] }, { accessFlags := 18, nameIndex := 21, descriptorIndex := 12, attributes := #[] }, { accessFlags := 18, nameIndex := 24, descriptorIndex := 25, attributes := #[] }])
  fields := #[{ name := "wallNanos", type := .long, accessFlags := 18, slot := 0, constantValue := 0 }, { name := "cpuNanos", type := .long, accessFlags := 18, slot := 1, constantValue := 0 }, { name := "ops", type := .long, accessFlags := 18, slot := 2, constantValue := 0 }, { name := "counted", type := .long, accessFlags := 18, slot := 3, constantValue := 0 }, { name := "stranded", type := .int, accessFlags := 18, slot := 4, constantValue := 0 }]
  methods := #[k3m0, k3m1]
  instanceTypes := #[.long, .long, .long, .long, .int]
  staticTypes := #[]
  resolved := Array.replicate 77 none
  statics := none }

def pool4 : Array CpInfo := pool [(1, u "java/lang/Cloneable"), (0, .class_ 1), (0, u "java/lang/Object"), (0, .class_ 3)] 3

/-- java/lang/Cloneable -/
def k4 : Class := { plain "java/lang/Cloneable" (some 0) with
  accessFlags := 1537
  interfaces := #[]
  cf := some (fileOf pool4 2 #[] #[] 1537 4 #[] #[])
  fields := #[]
  methods := #[]
  instanceTypes := #[]
  staticTypes := #[]
  resolved := Array.replicate 8 none
  statics := none }

def pool5 : Array CpInfo := pool [(1, u "java/io/Serializable"), (0, .class_ 1), (0, u "java/lang/Object"), (0, .class_ 3)] 3

/-- java/io/Serializable -/
def k5 : Class := { plain "java/io/Serializable" (some 0) with
  accessFlags := 1537
  interfaces := #[]
  cf := some (fileOf pool5 2 #[] #[] 1537 4 #[] #[])
  fields := #[]
  methods := #[]
  instanceTypes := #[]
  staticTypes := #[]
  resolved := Array.replicate 8 none
  statics := none }

/-- the primitive byte -/
def k6 : Class := { plain "byte" none with kind := .primitive 'B', accessFlags := 0x411 }
/-- [B -/
def k7 : Class := { plain "[B" (some 0) with kind := .array 6 .byte, interfaces := #[4, 5], accessFlags := 1041 }

/-- the primitive int -/
def k8 : Class := { plain "int" none with kind := .primitive 'I', accessFlags := 0x411 }
/-- [I -/
def k9 : Class := { plain "[I" (some 0) with kind := .array 8 .int, interfaces := #[4, 5], accessFlags := 1041 }

def heap : Heap := #[]
def classes : Array Class := #[k0, k1, k2, k3, k4, k5, k6, k7, k8, k9]
def interned : List (Array UInt16 × Addr) := []
def slotsUsed : Nat := 0
def theMethod : MethodId := ⟨1, 1⟩
def args0 : Array Value := #[.long 5, .int 3, .int 1, .long 5, .long 5, .int 3]
def aboutOver (below : List Frame) : State where
  vm := { classes := classes, interned := interned.toArray }
  heap := heap
  slotsUsed := slotsUsed
  threads := #[{ frames := .invoking theMethod args0 :: below }]
def below0 : List Frame := [.native { method := ⟨0, 0⟩, args := #[] }]
def about1 : State := aboutOver below0
def p0 : Program := .bare "" "" ""
def e0 : Env := launch0.env 0 0 0
theorem w_frames : about1.frames = Frame.invoking theMethod args0 :: below0 := rfl
set_option maxRecDepth 65536 in
theorem w_args : argsFit about1.vm theMethod args0 = true := by decide +kernel
set_option maxRecDepth 65536 in
theorem w_heap : heapFits about1 = true := by decide +kernel
set_option maxRecDepth 65536 in
theorem w_runnable : about1.curStatus? = some .runnable := by decide +kernel
set_option maxRecDepth 65536 in
theorem w_alone : about1.alone = true := by decide +kernel
set_option maxRecDepth 65536 in
theorem w_named : about1.methodNamed? x = some theMethod := by decide +kernel
set_option maxRecDepth 65536 in
theorem w_hears : about1.hears theMethod below0 = true := by decide +kernel
set_option maxRecDepth 65536 in
theorem w_ripe : about1.ripe theMethod args0 below0 = true := by decide +kernel
theorem w_running : about1.status = .running := rfl
set_option maxRecDepth 65536 in
theorem w_room : about1.hasRoom e0.platform room_1 = true :=
  launch0.hasRoom_least _ room_1 (by decide +kernel) (by decide +kernel) (by decide +kernel) (by decide +kernel) (by decide +kernel) (by decide +kernel)
theorem allAtoms_all (ts : List Jvm.Cond) (a : Array Jvm.Value) (st : Jvm.State) : (allAtoms ts).before a st = ts.all (fun c => c.before a st) := by
  induction ts with
  | nil => rfl
  | cons c t ih =>
    show (Jvm.Cond.and c (allAtoms t)).before a st = _
    rw [Jvm.Cond.before_and, ih, List.all_cons]
def words1 : List Jvm.Cond := Jvm.Cond.code x code maxLocals ret :: tables_1
/-- a 'code' word, met by the world's own term for the bytes: nothing is compared byte by byte -/
theorem code_word {y : MethodName} {bytes : ByteArray} {mx : Nat} {rt : Option FieldType} {a : Array Value} {s : State} {m : MethodId} {meth : Method} {c : Code} (h1 : s.methodNamed? y = some m) (h2 : s.vm.method? m = some meth) (h3 : meth.code = some c) (h4 : c.code = bytes)
    (h5 : (c.maxLocals == mx && c.exceptionTable.isEmpty && decide (c.maxStack ≤ mostOperands) && decide (meth.sig.returnType = rt) && !meth.locks && decide (parseMethodDescriptor y.desc = some meth.sig)) = true) : (Jvm.Cond.code y bytes mx rt).before a s = true := by
  simp only [Bool.and_eq_true, beq_iff_eq, Bool.not_eq_true', decide_eq_true_eq] at h5
  obtain ⟨⟨⟨⟨⟨g1, g2⟩, g3⟩, g4⟩, g5⟩, g6⟩ := h5
  simp [Cond.before, Cond.holds, Cond.value, h1, h2, h3, h4, g1, g2, g3, g4, g5, g6]
def isCode : Jvm.Cond → Bool
  | .code _ _ _ _ => true
  | _ => false
theorem all_split {L : List Jvm.Cond} {P : Jvm.Cond → Bool} (h1 : L.all (fun c => isCode c || P c) = true) (h2 : ∀ c ∈ L.filter isCode, P c = true) : L.all P = true := by
  refine List.all_eq_true.mpr fun c hc => ?_
  have h := List.all_eq_true.mp h1 c hc
  rcases Bool.eq_false_or_eq_true (isCode c) with hi | hi
  · exact h2 c (List.mem_filter.mpr ⟨hc, hi⟩)
  · simpa [hi] using h
set_option maxRecDepth 65536 in
theorem w_c0 : (Jvm.Cond.code x code maxLocals ret).before args0 about1 = true := code_word (m := ⟨1, 1⟩) (meth := k1m1) (c := k1c1) (by decide +kernel) rfl rfl rfl (by decide +kernel)
set_option maxRecDepth 65536 in
theorem w_c1 : (Jvm.Cond.code ({ cls := "latchwork/cli/LockLoop$Round", name := "<init>", desc := "(JJJJI)V" } : Jvm.MethodName) prog_18_method_1_code (10 : Nat) (Option.none : Option Jvm.ClassFile.FieldType)).before args0 about1 = true := code_word (m := ⟨3, 0⟩) (meth := k3m0) (c := k3c0) (by decide +kernel) rfl rfl rfl (by decide +kernel)
set_option maxRecDepth 65536 in
theorem w_c2 : (Jvm.Cond.code ({ cls := "java/lang/Record", name := "<init>", desc := "()V" } : Jvm.MethodName) jdk_30_method_1_code (1 : Nat) (Option.none : Option Jvm.ClassFile.FieldType)).before args0 about1 = true := code_word (m := ⟨2, 0⟩) (meth := k2m0) (c := k2c0) (by decide +kernel) rfl rfl rfl (by decide +kernel)
set_option maxRecDepth 65536 in
theorem w_c3 : (Jvm.Cond.code ({ cls := "java/lang/Object", name := "<init>", desc := "()V" } : Jvm.MethodName) object_method_1_code (1 : Nat) (Option.none : Option Jvm.ClassFile.FieldType)).before args0 about1 = true := code_word (m := ⟨0, 0⟩) (meth := k0m0) (c := k0c0) (by decide +kernel) rfl rfl rfl (by decide +kernel)
set_option maxRecDepth 65536 in
theorem w_c4 : (Jvm.Cond.code ({ cls := "latchwork/cli/LockLoop$Round", name := "cpuPerWall", desc := "()D" } : Jvm.MethodName) prog_18_method_3_code (1 : Nat) (Option.some Jvm.ClassFile.FieldType.double)).before args0 about1 = true := code_word (m := ⟨3, 1⟩) (meth := k3m1) (c := k3c1) (by decide +kernel) rfl rfl rfl (by decide +kernel)
def codes1 : List Jvm.Cond := [Jvm.Cond.code x code maxLocals ret, Jvm.Cond.code ({ cls := "latchwork/cli/LockLoop$Round", name := "<init>", desc := "(JJJJI)V" } : Jvm.MethodName) prog_18_method_1_code (10 : Nat) (Option.none : Option Jvm.ClassFile.FieldType), Jvm.Cond.code ({ cls := "java/lang/Record", name := "<init>", desc := "()V" } : Jvm.MethodName) jdk_30_method_1_code (1 : Nat) (Option.none : Option Jvm.ClassFile.FieldType), Jvm.Cond.code ({ cls := "java/lang/Object", name := "<init>", desc := "()V" } : Jvm.MethodName) object_method_1_code (1 : Nat) (Option.none : Option Jvm.ClassFile.FieldType), Jvm.Cond.code ({ cls := "latchwork/cli/LockLoop$Round", name := "cpuPerWall", desc := "()D" } : Jvm.MethodName) prog_18_method_3_code (1 : Nat) (Option.some Jvm.ClassFile.FieldType.double)]
set_option maxRecDepth 65536 in
theorem codes_eq : words1.filter isCode = codes1 := rfl
theorem w_codes : ∀ c ∈ words1.filter isCode, c.before args0 about1 = true := by
  rw [codes_eq]
  intro c hc
  simp only [codes1, List.mem_cons, List.not_mem_nil, or_false] at hc
  rcases hc with rfl | rfl | rfl | rfl | rfl
  · exact w_c0
  · exact w_c1
  · exact w_c2
  · exact w_c3
  · exact w_c4
set_option maxRecDepth 65536 in
theorem w_t1 : (words1.take 24).all (fun c => isCode c || c.before args0 about1) = true := by decide +kernel
set_option maxRecDepth 65536 in
theorem w_t2 : (words1.drop 24).all (fun c => isCode c || c.before args0 about1) = true := by decide +kernel
theorem w_tables : (allAtoms (Jvm.Cond.code x code maxLocals ret :: tables_1)).before args0 about1 = true := by
  rw [allAtoms_all]
  show words1.all (fun c => c.before args0 about1) = true
  refine all_split ?_ w_codes
  rw [← List.take_append_drop 24 words1, List.all_append, w_t1, w_t2]
  rfl
set_option maxRecDepth 65536 in
theorem w_case : (Jvm.Cond.and given_1 narrow_1).before args0 about1 = true := by decide +kernel
theorem w_applies : (headSpec (Jvm.Cond.code x code maxLocals ret :: tables_1) room_1).applies x e0.platform about1 = true :=
  (Spec.applies_iff w_frames).mpr ⟨w_running, w_runnable, w_alone, w_named, w_hears, w_ripe, w_room, w_tables⟩
theorem atStart : AtStart classFile x code maxLocals ret World_1 tables_1 room_1 Calls_1 rest_1 Pre_1 launch0 p0 e0 about1 theMethod args0 below0 :=
  ⟨lists_1, trivial, launch0.admits_env _ _ _, launch0.least_env, fairChoices_fair.cas, fairChoices_fair.clock, w_frames, w_args, w_heap, w_applies, trivial, trivial, w_case⟩
end start1
theorem witness_1 : WitnessClaimed_1 := ⟨start1.p0, start1.e0, start1.about1, start1.theMethod, start1.args0, start1.below0, start1.atStart⟩
end Jvm.Pilot.@@N@@
