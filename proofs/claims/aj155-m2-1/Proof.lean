import JvmDerived
import JvmDerived.Pilot.@@N@@Statement
import JvmDerived.Pilot.@@N@@Code
set_option linter.unusedVariables false
set_option linter.unusedSimpArgs false
namespace Jvm.Pilot.@@N@@
open Jvm Jvm.ClassFile Sem Op Lib Jvm.Free Jvm.Stand Jvm.LawKit Jvm.RoadKit Bundle Jvm.Pilot.@@N@@.Jvm.D
theorem own_w {a0 : Array Value} {Z : State} {d : Jvm.Cond} (hw : ∀ d ∈ tables_1, d.before a0 Z = true) (i : Nat) (h : tables_1[i]? = some d) : d.before a0 Z = true := hw _ (List.mem_of_getElem? h)
abbrev lvI (x : Int32) : Slot := .val (.int x)
abbrev lvR (x : Addr) : Slot := .val (.ref x)
abbrev own_S (p : Program) (e : Env) (b : List Frame) (m : MethodId) (T : State) (pc : Nat) (l : Array Slot) (st : List Value) (t : State) : Prop := Steps p.tables e b (T.setTop (mkF m pc l st)) t
theorem own_eqi {args : Array Value} {s : State} {t : Term} {k : Int32} (h : (Jvm.Cond.eq t (.int k)).value args s none s [] = some true) : t.eval args s none [] s = some (.int k) := by
  simp only [Cond.value, Term.eval] at h
  cases ht : t.eval args s none [] s with
  | none => simp [ht] at h
  | some x => cases x <;> simp [ht] at h ⊢ <;> exact h
theorem own_nei {args : Array Value} {s : State} {t : Term} {k x : Int32} (h : (Jvm.Cond.not (Jvm.Cond.eq t (.int k))).value args s none s [] = some true) (ht : t.eval args s none [] s = some (.int x)) : ¬ (x = k) := by
  have h1 := not_v h
  simp only [Cond.value, ht, Term.eval] at h1
  intro e
  subst e
  simp at h1
theorem own_i2b2 (x : Int32) : (x.toInt8.toInt32).toInt8.toInt32 = x.toInt8.toInt32 := by
  have h1 := c_i2b x
  have h2 := c_i2b (x.toInt8.toInt32)
  apply Int32.toInt_inj.mp
  omega
def own_chr (x : Int32) : Prop := 0 ≤ x.toInt ∧ x.toInt < 65536
def own_two (n z : Int32) : Prop := z = n ∨ z = n + n
theorem own_chr_id {x : Int32} (h : own_chr x) : x.toUInt32.toUInt16.toUInt32.toInt32 = x := by
  have c := c_i2c x
  obtain ⟨h1, h2⟩ := h
  exact Int32.toInt_inj.mp (by omega)
theorem own_chr_of {z x : Int32} (h : z = (x.toUInt32.toUInt16.toUInt32.toInt32)) : own_chr z := by
  subst h
  have c := c_i2c x
  exact ⟨by omega, by omega⟩
theorem own_narc (x : Int32) : nar .char (x.toUInt32.toUInt16.toUInt32.toInt32) = (x.toUInt32.toUInt16.toUInt32.toInt32) := own_chr_id (own_chr_of (x := x) rfl)
theorem own_getc {x : Int32} (h : own_chr x) (g : (255 : Int32) < x) : (255 : Int32) < (((((((x >>> ((0 : Int32) &&& 31)).toInt8.toInt32) &&& (255 : Int32)) <<< ((0 : Int32) &&& 31)) ||| ((((x >>> ((8 : Int32) &&& 31)).toInt8.toInt32) &&& (255 : Int32)) <<< ((8 : Int32) &&& 31)))).toUInt32.toUInt16.toUInt32.toInt32) := by
  obtain ⟨h1, h2⟩ := h
  have a0 := c_ishr x 0 0 (by decide)
  have a8 := c_ishr x 8 8 (by decide)
  have b0 := c_i2b (x >>> ((0 : Int32) &&& 31))
  have b8 := c_i2b (x >>> ((8 : Int32) &&& 31))
  have m0 := c_mask ((x >>> ((0 : Int32) &&& 31)).toInt8.toInt32) 255 8 (by decide) (by decide)
  have m8 := c_mask ((x >>> ((8 : Int32) &&& 31)).toInt8.toInt32) 255 8 (by decide) (by decide)
  generalize ((x >>> ((0 : Int32) &&& 31)).toInt8.toInt32) = u at *
  generalize ((x >>> ((8 : Int32) &&& 31)).toInt8.toInt32) = v at *
  have s0 := c_ishl (u &&& (255 : Int32)) 0 0 (by decide)
  have s8 := c_ishl (v &&& (255 : Int32)) 8 8 (by decide)
  have r0 := rng32 ((u &&& (255 : Int32)) <<< ((0 : Int32) &&& 31))
  have r8 := rng32 ((v &&& (255 : Int32)) <<< ((8 : Int32) &&& 31))
  generalize ((u &&& (255 : Int32)) <<< ((0 : Int32) &&& 31)) = y at *
  generalize ((v &&& (255 : Int32)) <<< ((8 : Int32) &&& 31)) = z at *
  have o := c_or' y z 8 (by decide) 256 rfl (by omega) (by omega) (by omega)
  have ro := rng32 (y ||| z)
  have c := c_i2c (y ||| z)
  generalize (y ||| z) = w at *
  rw [Int32.lt_iff_toInt_lt] at *
  have : (255 : Int32).toInt = 255 := rfl
  omega
theorem d1_0 : decode jdk_52_method_21_code 0 = .ok (.iconst 0, 1) := by decide +kernel
theorem d1_1 : decode jdk_52_method_21_code 1 = .ok (.istore 5, 2) := by decide +kernel
theorem d1_3 : decode jdk_52_method_21_code 3 = .ok (.iload 5, 2) := by decide +kernel
theorem d1_5 : decode jdk_52_method_21_code 5 = .ok (.iload 4, 2) := by decide +kernel
theorem d1_7 : decode jdk_52_method_21_code 7 = .ok (.if_icmp .ge 37, 3) := by decide +kernel
theorem d1_10 : decode jdk_52_method_21_code 10 = .ok (.aload_n 0, 1) := by decide +kernel
theorem d1_11 : decode jdk_52_method_21_code 11 = .ok (.iload_n 1, 1) := by decide +kernel
theorem d1_12 : decode jdk_52_method_21_code 12 = .ok (.caload, 1) := by decide +kernel
theorem d1_13 : decode jdk_52_method_21_code 13 = .ok (.istore 6, 2) := by decide +kernel
theorem d1_15 : decode jdk_52_method_21_code 15 = .ok (.iload 6, 2) := by decide +kernel
theorem d1_17 : decode jdk_52_method_21_code 17 = .ok (.sipush 255, 3) := by decide +kernel
theorem d1_20 : decode jdk_52_method_21_code 20 = .ok (.if_icmp .le 6, 3) := by decide +kernel
theorem d1_23 : decode jdk_52_method_21_code 23 = .ok (.iload 5, 2) := by decide +kernel
theorem d1_25 : decode jdk_52_method_21_code 25 = .ok (.ireturn, 1) := by decide +kernel
theorem d1_26 : decode jdk_52_method_21_code 26 = .ok (.aload_n 2, 1) := by decide +kernel
theorem d1_27 : decode jdk_52_method_21_code 27 = .ok (.iload_n 3, 1) := by decide +kernel
theorem d1_28 : decode jdk_52_method_21_code 28 = .ok (.iload 6, 2) := by decide +kernel
theorem d1_30 : decode jdk_52_method_21_code 30 = .ok (.i2b, 1) := by decide +kernel
theorem d1_31 : decode jdk_52_method_21_code 31 = .ok (.bastore, 1) := by decide +kernel
theorem d1_32 : decode jdk_52_method_21_code 32 = .ok (.iinc 1 1, 3) := by decide +kernel
theorem d1_35 : decode jdk_52_method_21_code 35 = .ok (.iinc 3 1, 3) := by decide +kernel
theorem d1_38 : decode jdk_52_method_21_code 38 = .ok (.iinc 5 1, 3) := by decide +kernel
theorem d1_41 : decode jdk_52_method_21_code 41 = .ok (.goto (-38), 3) := by decide +kernel
theorem d1_44 : decode jdk_52_method_21_code 44 = .ok (.iload 4, 2) := by decide +kernel
theorem d1_46 : decode jdk_52_method_21_code 46 = .ok (.ireturn, 1) := by decide +kernel
theorem pn_0 : plainName "java/lang/StringUTF16" = true := by first | (simp [plainName, overriddenIn]; done) | decide +kernel
theorem efCp1 (m : MethodId) (sr_ : Addr) (ds_ : Addr) : entryFrame m #[(.ref sr_), (.int (0 : Int32)), (.ref ds_), (.int (0 : Int32)), (.int (1 : Int32))] 7 = mkF m 0 #[lvR sr_, lvI (0 : Int32), lvR ds_, lvI (0 : Int32), lvI (1 : Int32), .unset, .unset] [] := by first | (simp [entryFrame, mkF, argsToLocals, Value.category]; done) | rfl
def QCp1 (Z : State) (sr_ : Addr) (ks_ : ClassId) (ds_ : Addr) (kd_ : ClassId) (x0_ : Int32) (h0 : Heap) (n0 : Nat) (v : Option Value) (h : Heap) (L : List Loc) : Prop := ∃ vs_w : List Value, ∃ r_ : Int32, v = some (.int r_) ∧ (((0 : Int32) = r_ ∧ ((255 : Int32) < x0_)) ∨ ((1 : Int32) = r_ ∧ (¬ ((255 : Int32) < x0_)))) ∧ Fr n0 L ∧ Keep h0 h [ds_] ∧ Arv Z h ds_ kd_ .byte (1 : Int32) vs_w (.int (0 : Int32))
set_option maxRecDepth 65536 in
set_option maxHeartbeats 40000000 in
theorem rmCp1 (l : Launch) (Z : State) (a0 : Array Value) (hw : ∀ d ∈ tables_1, d.before a0 Z = true) (ws : List Jvm.Cond) (sr_ : Addr) (ks_ : ClassId) (ds_ : Addr) (kd_ : ClassId) (x0_ : Int32) (h0 : Heap) (n0 : Nat) (O0 : Old Z n0 h0) (P0 : Arv Z h0 sr_ ks_ .char (1 : Int32) [(.int x0_)] (.int (0 : Int32))) (P1 : Arv Z h0 ds_ kd_ .byte (1 : Int32) [(.int (0 : Int32))] (.int (0 : Int32))) (P2 : n0 ≤ ds_) :
    MetFree l (⟨"java/lang/StringUTF16", "compress", "([CI[BII)I"⟩ : MethodName) (head1 (Jvm.Cond.code (⟨"java/lang/StringUTF16", "compress", "([CI[BII)I"⟩ : MethodName) jdk_52_method_21_code 7 (some .int) :: ws) ({ frames := 0, cells := 0, slots := 0, locals := 0 } : Room)) (fun a U => a = #[(.ref sr_), (.int (0 : Int32)), (.ref ds_), (.int (0 : Int32)), (.int (1 : Int32))] ∧ Z.Warmed39 U.vm ∧ U.heap = h0) (fun _ _ _ _ _ => True) (fun _ U o U' => ∃ v L, o = .returned v ∧ QCp1 Z sr_ ks_ ds_ kd_ x0_ h0 n0 v U'.heap L ∧ FrameEnd U o U' L ({ frames := 0, cells := 0, slots := 0, locals := 0 } : Room).cells ({ frames := 0, cells := 0, slots := 0, locals := 0 } : Room).slots) := by
  refine MetFree.of_bodySF (plainFor_of_name pn_0) hisR ?_
  intro p e s m args below meth c s₁ Bd hml0 hP hK
  obtain ⟨rfl, hZ, hh⟩ := hP
  have hx := Bd.exec
  have hby := Bd.bytes
  have hml : c.maxLocals = 7 := hml0
  have hown : s.vm.findClass "java/lang/StringUTF16" = some m.cls := findClass_of_methodNamed Bd.named
  have hnm := (name_of_methodNamed Bd.named Bd.method).1
  have X0 : Stand p l e ({ frames := 0, cells := 0, slots := 0, locals := 0 } : Room) s m #[(.ref sr_), (.int (0 : Int32)), (.ref ds_), (.int (0 : Int32)), (.int (1 : Int32))] below meth c s₁ [] 0 0 := Stand.of_body Bd
  have e0 : s₁.heap = h0 := by rw [← hh, Bd.state]; rfl
  have N0 := Fr.nil n0
  obtain ⟨G, pre0, hG⟩ : ∃ G : State → Prop, (∀ t, own_S p e below m s₁ 0 #[lvR sr_, lvI (0 : Int32), lvR ds_, lvI (0 : Int32), lvI (1 : Int32), .unset, .unset] [] t → G t) ∧ (∀ t, G t → Steps p.tables e below (s₁.setTop (entryFrame m #[(.ref sr_), (.int (0 : Int32)), (.ref ds_), (.int (0 : Int32)), (.int (1 : Int32))] 7)) t) := ⟨fun t => Steps p.tables e below (s₁.setTop (entryFrame m #[(.ref sr_), (.int (0 : Int32)), (.ref ds_), (.int (0 : Int32)), (.int (1 : Int32))] 7)) t, fun t k => castTop (efCp1 m sr_ ds_) k, fun _ k => k⟩
  have K0 : Keep h0 h0 [ds_] := Keep.refl _ _
  obtain ⟨c1, r1, q1, s1, z1, y1, G1⟩ := id P0
  have hin1 : ¬ ((0 : Int32) < 0 ∨ c1.slots.size ≤ ((0 : Int32)).toNatClampNeg) := inb_of s1 ⟨by decide, by decide⟩
  have hat1 : c1.slots[((0 : Int32)).toNatClampNeg]? = some (.int x0_) := Has.at y1 hin1 rfl
  have pre2 : ∀ t, own_S p e below m s₁ 20 #[lvR sr_, lvI (0 : Int32), lvR ds_, lvI (0 : Int32), lvI (1 : Int32), lvI (0 : Int32), lvI x0_] [(.int (255 : Int32)), (.int x0_)] t → G t := by
    intro t kt
    refine pre0 t ?_
    show own_S p e below m s₁ 0 #[lvR sr_, lvI (0 : Int32), lvR ds_, lvI (0 : Int32), lvI (1 : Int32), .unset, .unset] [] _
    refine XS.iconst X0.here hx rfl (hb hby d1_0) ?_
    refine XS.istore X0.here hx rfl (hb hby d1_1) rfl (l' := #[lvR sr_, lvI (0 : Int32), lvR ds_, lvI (0 : Int32), lvI (1 : Int32), lvI (0 : Int32), .unset]) rfl ?_
    refine XS.iload X0.here hx rfl (hb hby d1_3) rfl ?_
    refine XS.iload X0.here hx rfl (hb hby d1_5) rfl ?_
    show own_S p e below m s₁ 7 #[lvR sr_, lvI (0 : Int32), lvR ds_, lvI (0 : Int32), lvI (1 : Int32), lvI (0 : Int32), .unset] [(.int (1 : Int32)), (.int (0 : Int32))] _
    refine XS.icmpNo X0.here hx rfl (hb hby d1_7) rfl (tlt (by decide : (0 : Int32) < (1 : Int32))).2.1 ?_
    refine XS.aloadN X0.here hx rfl (hb hby d1_10) rfl rfl ?_
    refine XS.iloadN X0.here hx rfl (hb hby d1_11) rfl ?_
    show own_S p e below m s₁ 12 #[lvR sr_, lvI (0 : Int32), lvR ds_, lvI (0 : Int32), lvI (1 : Int32), lvI (0 : Int32), .unset] [(.int (0 : Int32)), (.ref sr_)] _
    refine X0.caload hx (j := (0 : Int32)) (v := (.int x0_)) (by rw [e0]; exact r1.1) (State.isArrayOf_alike hZ.alike r1.2.1) r1.2.2 hin1 hat1 (g := (mkF m 12 #[lvR sr_, lvI (0 : Int32), lvR ds_, lvI (0 : Int32), lvI (1 : Int32), lvI (0 : Int32), .unset] [(.int (0 : Int32)), (.ref sr_)])) rfl rfl (hb hby d1_12) _ ?_
    refine XS.istore X0.here hx rfl (hb hby d1_13) rfl (l' := #[lvR sr_, lvI (0 : Int32), lvR ds_, lvI (0 : Int32), lvI (1 : Int32), lvI (0 : Int32), lvI x0_]) rfl ?_
    refine XS.iload X0.here hx rfl (hb hby d1_15) rfl ?_
    refine XS.sipush X0.here hx rfl (hb hby d1_17) ?_
    exact kt
  by_cases hc3 : (255 : Int32) < x0_
  · have pre4 : ∀ t, own_S p e below m s₁ 25 #[lvR sr_, lvI (0 : Int32), lvR ds_, lvI (0 : Int32), lvI (1 : Int32), lvI (0 : Int32), lvI x0_] [(.int (0 : Int32))] t → G t := by
      intro t kt
      refine pre2 t ?_
      show own_S p e below m s₁ 20 #[lvR sr_, lvI (0 : Int32), lvR ds_, lvI (0 : Int32), lvI (1 : Int32), lvI (0 : Int32), lvI x0_] [(.int (255 : Int32)), (.int x0_)] _
      refine XS.icmpNo X0.here hx rfl (hb hby d1_20) rfl (tlt hc3).2.2.2 ?_
      refine XS.iload X0.here hx rfl (hb hby d1_23) rfl ?_
      exact kt
    obtain ⟨fs, hr, hrun, hended, hW, hsame⟩ := X0.leave (v := some (.int (0 : Int32))) (fun h => by rw [Bd.returns] at h; cases h)
    refine ⟨_, _, hG _ (pre4 _ (retOut X0 hx Bd.returns rfl (Or.inl ⟨rfl, Or.inl rfl, _, rfl⟩) (hb hby d1_25) hr)), hrun, hended, _, _, rfl, ?_, ⟨_, rfl⟩, hW, hsame.mono (by decide) (by decide)⟩
    show QCp1 Z sr_ ks_ ds_ kd_ x0_ h0 n0 _ s₁.heap _
    rw [e0]
    exact ⟨[(.int (0 : Int32))], (0 : Int32), rfl, (Or.inl ⟨rfl, hc3⟩), N0, K0, P1⟩
  · obtain ⟨c6, r6, q6, s6, z6, y6, G6⟩ := id P1
    have hin6 : ¬ ((0 : Int32) < 0 ∨ c6.slots.size ≤ ((0 : Int32)).toNatClampNeg) := inb_of s6 ⟨by decide, by decide⟩
    obtain ⟨T6, h6, X6, e6, W6, st6⟩ := stB X0 hx hZ e0 r6 (j := (0 : Int32)) hin6 (g := (mkF m 31 #[lvR sr_, lvI (0 : Int32), lvR ds_, lvI (0 : Int32), lvI (1 : Int32), lvI (0 : Int32), lvI x0_] [(.int (x0_.toInt8.toInt32)), (.int (0 : Int32)), (.ref ds_)])) rfl rfl (hb hby d1_31)
    have N7 := Fr.snoc X6 N0 P2
    have f8 : Arv Z h6 ds_ kd_ .byte (1 : Int32) [(.int ((x0_.toInt8.toInt32).toInt8.toInt32))] (.int (0 : Int32)) := Arv.set r6 q6 s6 z6 y6 G6 (fits_nar_byte _) W6 0 rfl (Nat.le_of_ble_eq_true rfl)
    have f9 : Arv Z h6 ds_ kd_ .byte (1 : Int32) [(.int (x0_.toInt8.toInt32))] (.int (0 : Int32)) := by have q := f8; rw [own_i2b2] at q; exact q
    have pre10 : ∀ t, own_S p e below m T6 46 #[lvR sr_, lvI (1 : Int32), lvR ds_, lvI (1 : Int32), lvI (1 : Int32), lvI (1 : Int32), lvI x0_] [(.int (1 : Int32))] t → G t := by
      intro t kt
      refine pre2 t ?_
      show own_S p e below m s₁ 20 #[lvR sr_, lvI (0 : Int32), lvR ds_, lvI (0 : Int32), lvI (1 : Int32), lvI (0 : Int32), lvI x0_] [(.int (255 : Int32)), (.int x0_)] _
      refine XS.icmpYes X0.here hx rfl (pc0 := 20) (pc' := 26) rfl (hb hby d1_20) rfl (flt hc3).2.2.2 (by decide) (by decide) ?_
      refine XS.aloadN X0.here hx rfl (hb hby d1_26) rfl rfl ?_
      refine XS.iloadN X0.here hx rfl (hb hby d1_27) rfl ?_
      refine XS.iload X0.here hx rfl (hb hby d1_28) rfl ?_
      show own_S p e below m s₁ 30 #[lvR sr_, lvI (0 : Int32), lvR ds_, lvI (0 : Int32), lvI (1 : Int32), lvI (0 : Int32), lvI x0_] [(.int x0_), (.int (0 : Int32)), (.ref ds_)] _
      refine XS.i2b X0.here hx rfl (hb hby d1_30) rfl ?_
      show own_S p e below m s₁ 31 #[lvR sr_, lvI (0 : Int32), lvR ds_, lvI (0 : Int32), lvI (1 : Int32), lvI (0 : Int32), lvI x0_] [(.int (x0_.toInt8.toInt32)), (.int (0 : Int32)), (.ref ds_)] _
      refine st6 _ ?_
      refine XS.iinc X6.here hx rfl (hb hby d1_32) rfl (l' := #[lvR sr_, lvI (1 : Int32), lvR ds_, lvI (0 : Int32), lvI (1 : Int32), lvI (0 : Int32), lvI x0_]) rfl ?_
      refine XS.iinc X6.here hx rfl (hb hby d1_35) rfl (l' := #[lvR sr_, lvI (1 : Int32), lvR ds_, lvI (1 : Int32), lvI (1 : Int32), lvI (0 : Int32), lvI x0_]) rfl ?_
      refine XS.iinc X6.here hx rfl (hb hby d1_38) rfl (l' := #[lvR sr_, lvI (1 : Int32), lvR ds_, lvI (1 : Int32), lvI (1 : Int32), lvI (1 : Int32), lvI x0_]) rfl ?_
      refine XS.goto X6.here hx rfl (pc0 := 41) (pc' := 3) rfl (hb hby d1_41) (by decide) (by decide) ?_
      refine XS.iload X6.here hx rfl (hb hby d1_3) rfl ?_
      show own_S p e below m T6 5 #[lvR sr_, lvI (1 : Int32), lvR ds_, lvI (1 : Int32), lvI (1 : Int32), lvI (1 : Int32), lvI x0_] [(.int (1 : Int32))] _
      refine XS.iload X6.here hx rfl (hb hby d1_5) rfl ?_
      show own_S p e below m T6 7 #[lvR sr_, lvI (1 : Int32), lvR ds_, lvI (1 : Int32), lvI (1 : Int32), lvI (1 : Int32), lvI x0_] [(.int (1 : Int32)), (.int (1 : Int32))] _
      refine XS.icmpYes X6.here hx rfl (pc0 := 7) (pc' := 44) rfl (hb hby d1_7) rfl (flt (by decide : ¬ ((1 : Int32) < (1 : Int32)))).2.1 (by decide) (by decide) ?_
      refine XS.iload X6.here hx rfl (hb hby d1_44) rfl ?_
      exact kt
    have f12 : Keep h0 h6 [ds_] := K0.wr W6 (Or.inl (List.mem_of_getElem? (i := 0) rfl))
    obtain ⟨fs, hr, hrun, hended, hW, hsame⟩ := X6.leave (v := some (.int (1 : Int32))) (fun h => by rw [Bd.returns] at h; cases h)
    refine ⟨_, _, hG _ (pre10 _ (retOut X6 hx Bd.returns rfl (Or.inl ⟨rfl, Or.inl rfl, _, rfl⟩) (hb hby d1_46) hr)), hrun, hended, _, _, rfl, ?_, ⟨_, rfl⟩, hW, hsame.mono (by decide) (by decide)⟩
    show QCp1 Z sr_ ks_ ds_ kd_ x0_ h0 n0 _ T6.heap _
    rw [e6]
    exact ⟨[(.int (x0_.toInt8.toInt32))], (1 : Int32), rfl, (Or.inr ⟨rfl, hc3⟩), N7, f12, f9⟩
theorem d2_0 : decode jdk_52_method_16_code 0 = .ok (.iload_n 2, 1) := by decide +kernel
theorem d2_1 : decode jdk_52_method_16_code 1 = .ok (.newarray .byte, 2) := by decide +kernel
theorem d2_3 : decode jdk_52_method_16_code 3 = .ok (.astore_n 3, 1) := by decide +kernel
theorem d2_4 : decode jdk_52_method_16_code 4 = .ok (.aload_n 0, 1) := by decide +kernel
theorem d2_5 : decode jdk_52_method_16_code 5 = .ok (.iload_n 1, 1) := by decide +kernel
theorem d2_6 : decode jdk_52_method_16_code 6 = .ok (.aload_n 3, 1) := by decide +kernel
theorem d2_7 : decode jdk_52_method_16_code 7 = .ok (.iconst 0, 1) := by decide +kernel
theorem d2_8 : decode jdk_52_method_16_code 8 = .ok (.iload_n 2, 1) := by decide +kernel
theorem d2_9 : decode jdk_52_method_16_code 9 = .ok (.invokestatic 115, 3) := by decide +kernel
theorem pd_0 : parseMethodDescriptor "([CI[BII)I" = some ⟨[(.array .char), .int, (.array .byte), .int, .int], some .int⟩ := by decide +kernel
theorem d2_12 : decode jdk_52_method_16_code 12 = .ok (.istore 4, 2) := by decide +kernel
theorem d2_14 : decode jdk_52_method_16_code 14 = .ok (.iload 4, 2) := by decide +kernel
theorem d2_16 : decode jdk_52_method_16_code 16 = .ok (.iload_n 2, 1) := by decide +kernel
theorem d2_17 : decode jdk_52_method_16_code 17 = .ok (.if_icmp .eq 40, 3) := by decide +kernel
theorem d2_20 : decode jdk_52_method_16_code 20 = .ok (.aload_n 0, 1) := by decide +kernel
theorem d2_21 : decode jdk_52_method_16_code 21 = .ok (.iload_n 1, 1) := by decide +kernel
theorem d2_22 : decode jdk_52_method_16_code 22 = .ok (.iload_n 2, 1) := by decide +kernel
theorem d2_23 : decode jdk_52_method_16_code 23 = .ok (.invokestatic 119, 3) := by decide +kernel
theorem d3_0 : decode jdk_52_method_14_code 0 = .ok (.iload_n 2, 1) := by decide +kernel
theorem d3_1 : decode jdk_52_method_14_code 1 = .ok (.invokestatic 107, 3) := by decide +kernel
theorem d4_0 : decode jdk_52_method_2_code 0 = .ok (.iload_n 0, 1) := by decide +kernel
theorem d4_1 : decode jdk_52_method_2_code 1 = .ok (.invokestatic 11, 3) := by decide +kernel
theorem d5_0 : decode jdk_52_method_3_code 0 = .ok (.iload_n 0, 1) := by decide +kernel
theorem d5_1 : decode jdk_52_method_3_code 1 = .ok (.ifCond .ge 11, 3) := by decide +kernel
theorem d5_12 : decode jdk_52_method_3_code 12 = .ok (.iload_n 0, 1) := by decide +kernel
theorem d5_13 : decode jdk_52_method_3_code 13 = .ok (.ldc 20, 2) := by decide +kernel
theorem d5_15 : decode jdk_52_method_3_code 15 = .ok (.if_icmp .lt 40, 3) := by decide +kernel
theorem d5_55 : decode jdk_52_method_3_code 55 = .ok (.iload_n 0, 1) := by decide +kernel
theorem d5_56 : decode jdk_52_method_3_code 56 = .ok (.iconst 1, 1) := by decide +kernel
theorem d5_57 : decode jdk_52_method_3_code 57 = .ok (.ishl, 1) := by decide +kernel
theorem d5_58 : decode jdk_52_method_3_code 58 = .ok (.ireturn, 1) := by decide +kernel
theorem efnewBytesLength3 (m : MethodId)  : entryFrame m #[(.int (1 : Int32))] 1 = mkF m 0 #[lvI (1 : Int32)] [] := by first | (simp [entryFrame, mkF, argsToLocals, Value.category]; done) | rfl
def QnewBytesLength3 (Z : State)  (h0 : Heap) (n0 : Nat) (v : Option Value) (h : Heap) (L : List Loc) : Prop := v = some (.int (2 : Int32)) ∧ Fr n0 L ∧ h = h0
set_option maxRecDepth 65536 in
set_option maxHeartbeats 40000000 in
theorem rmnewBytesLength3 (l : Launch) (Z : State) (a0 : Array Value) (hw : ∀ d ∈ tables_1, d.before a0 Z = true) (ws : List Jvm.Cond)  (h0 : Heap) (n0 : Nat) (O0 : Old Z n0 h0)  :
    MetFree l (⟨"java/lang/StringUTF16", "newBytesLength", "(I)I"⟩ : MethodName) (head1 (Jvm.Cond.code (⟨"java/lang/StringUTF16", "newBytesLength", "(I)I"⟩ : MethodName) jdk_52_method_3_code 1 (some .int) :: ws) ({ frames := 0, cells := 0, slots := 0, locals := 0 } : Room)) (fun a U => a = #[(.int (1 : Int32))] ∧ Z.Warmed39 U.vm ∧ U.heap = h0) (fun _ _ _ _ _ => True) (fun _ U o U' => ∃ v L, o = .returned v ∧ QnewBytesLength3 Z  h0 n0 v U'.heap L ∧ FrameEnd U o U' L ({ frames := 0, cells := 0, slots := 0, locals := 0 } : Room).cells ({ frames := 0, cells := 0, slots := 0, locals := 0 } : Room).slots) := by
  refine MetFree.of_bodySF (plainFor_of_name pn_0) hisR ?_
  intro p e s m args below meth c s₁ Bd hml0 hP hK
  obtain ⟨rfl, hZ, hh⟩ := hP
  have hx := Bd.exec
  have hby := Bd.bytes
  have hml : c.maxLocals = 1 := hml0
  have hown : s.vm.findClass "java/lang/StringUTF16" = some m.cls := findClass_of_methodNamed Bd.named
  have hnm := (name_of_methodNamed Bd.named Bd.method).1
  have X0 : Stand p l e ({ frames := 0, cells := 0, slots := 0, locals := 0 } : Room) s m #[(.int (1 : Int32))] below meth c s₁ [] 0 0 := Stand.of_body Bd
  have e0 : s₁.heap = h0 := by rw [← hh, Bd.state]; rfl
  have N0 := Fr.nil n0
  obtain ⟨G, pre0, hG⟩ : ∃ G : State → Prop, (∀ t, own_S p e below m s₁ 0 #[lvI (1 : Int32)] [] t → G t) ∧ (∀ t, G t → Steps p.tables e below (s₁.setTop (entryFrame m #[(.int (1 : Int32))] 1)) t) := ⟨fun t => Steps p.tables e below (s₁.setTop (entryFrame m #[(.int (1 : Int32))] 1)) t, fun t k => castTop (efnewBytesLength3 m ) k, fun _ k => k⟩
  have K0 : Keep h0 h0 [] := Keep.refl _ _
  have pre1 : ∀ t, own_S p e below m s₁ 58 #[lvI (1 : Int32)] [(.int (2 : Int32))] t → G t := by
    intro t kt
    refine pre0 t ?_
    show own_S p e below m s₁ 0 #[lvI (1 : Int32)] [] _
    refine XS.iloadN X0.here hx rfl (hb hby d5_0) rfl ?_
    show own_S p e below m s₁ 1 #[lvI (1 : Int32)] [(.int (1 : Int32))] _
    refine XS.ifYes X0.here hx rfl (pc0 := 1) (pc' := 12) rfl (hb hby d5_1) rfl ((if0 _ _).trans (flt (by decide : ¬ ((1 : Int32) < (0 : Int32)))).2.1) (by decide) (by decide) ?_
    refine XS.iloadN X0.here hx rfl (hb hby d5_12) rfl ?_
    show own_S p e below m s₁ 13 #[lvI (1 : Int32)] [(.int (1 : Int32))] _
    refine X0.ldcInt hx hown (mvT hZ (own_w hw 55 rfl)) (g := (mkF m 13 #[lvI (1 : Int32)] [(.int (1 : Int32))])) rfl (hb hby d5_13) _ ?_
    show own_S p e below m s₁ 15 #[lvI (1 : Int32)] [(.int (1073741823 : Int32)), (.int (1 : Int32))] _
    refine XS.icmpYes X0.here hx rfl (pc0 := 15) (pc' := 55) rfl (hb hby d5_15) rfl (tlt (by decide : (1 : Int32) < (1073741823 : Int32))).1 (by decide) (by decide) ?_
    refine XS.iloadN X0.here hx rfl (hb hby d5_55) rfl ?_
    refine XS.iconst X0.here hx rfl (hb hby d5_56) ?_
    show own_S p e below m s₁ 57 #[lvI (1 : Int32)] [(.int (1 : Int32)), (.int (1 : Int32))] _
    refine XS.ishl X0.here hx rfl (hb hby d5_57) rfl ?_
    exact kt
  obtain ⟨fs, hr, hrun, hended, hW, hsame⟩ := X0.leave (v := some (.int (2 : Int32))) (fun h => by rw [Bd.returns] at h; cases h)
  refine ⟨_, _, hG _ (pre1 _ (retOut X0 hx Bd.returns rfl (Or.inl ⟨rfl, Or.inl rfl, _, rfl⟩) (hb hby d5_58) hr)), hrun, hended, _, _, rfl, ?_, ⟨_, rfl⟩, hW, hsame.mono (by decide) (by decide)⟩
  show QnewBytesLength3 Z  h0 n0 _ s₁.heap _
  rw [e0]
  exact ⟨rfl, N0, rfl⟩
theorem pd_1 : parseMethodDescriptor "(I)I" = some ⟨[.int], some .int⟩ := by decide +kernel
theorem d4_4 : decode jdk_52_method_2_code 4 = .ok (.newarray .byte, 2) := by decide +kernel
theorem d4_6 : decode jdk_52_method_2_code 6 = .ok (.areturn, 1) := by decide +kernel
theorem efnewBytesFor2 (m : MethodId)  : entryFrame m #[(.int (1 : Int32))] 1 = mkF m 0 #[lvI (1 : Int32)] [] := by first | (simp [entryFrame, mkF, argsToLocals, Value.category]; done) | rfl
def QnewBytesFor2 (Z : State)  (h0 : Heap) (n0 : Nat) (v : Option Value) (h : Heap) (L : List Loc) : Prop := ∃ k3 : ClassId, ∃ nb3 : Addr, v = some (.ref nb3) ∧ Fr n0 L ∧ Keep h0 h [] ∧ h0.size ≤ nb3 ∧ Arv Z h nb3 k3 .byte (2 : Int32) [(.int (0 : Int32)), (.int (0 : Int32))] (.int (0 : Int32)) ∧ Exa Z h nb3 "[B"
set_option maxRecDepth 65536 in
set_option maxHeartbeats 40000000 in
theorem rmnewBytesFor2 (l : Launch) (Z : State) (a0 : Array Value) (hw : ∀ d ∈ tables_1, d.before a0 Z = true) (ws : List Jvm.Cond)  (h0 : Heap) (n0 : Nat) (O0 : Old Z n0 h0)  :
    MetFree l (⟨"java/lang/StringUTF16", "newBytesFor", "(I)[B"⟩ : MethodName) (head1 (Jvm.Cond.code (⟨"java/lang/StringUTF16", "newBytesFor", "(I)[B"⟩ : MethodName) jdk_52_method_2_code 1 (some (.array .byte)) :: ws) ({ frames := 1, cells := 1, slots := 2, locals := 12 } : Room)) (fun a U => a = #[(.int (1 : Int32))] ∧ Z.Warmed39 U.vm ∧ U.heap = h0) (fun _ _ _ _ _ => True) (fun _ U o U' => ∃ v L, o = .returned v ∧ QnewBytesFor2 Z  h0 n0 v U'.heap L ∧ FrameEnd U o U' L ({ frames := 1, cells := 1, slots := 2, locals := 12 } : Room).cells ({ frames := 1, cells := 1, slots := 2, locals := 12 } : Room).slots) := by
  refine MetFree.of_bodySF (plainFor_of_name pn_0) hisR ?_
  intro p e s m args below meth c s₁ Bd hml0 hP hK
  obtain ⟨rfl, hZ, hh⟩ := hP
  have hx := Bd.exec
  have hby := Bd.bytes
  have hml : c.maxLocals = 1 := hml0
  have hown : s.vm.findClass "java/lang/StringUTF16" = some m.cls := findClass_of_methodNamed Bd.named
  have hnm := (name_of_methodNamed Bd.named Bd.method).1
  have X0 : Stand p l e ({ frames := 1, cells := 1, slots := 2, locals := 12 } : Room) s m #[(.int (1 : Int32))] below meth c s₁ [] 0 0 := Stand.of_body Bd
  have e0 : s₁.heap = h0 := by rw [← hh, Bd.state]; rfl
  have N0 := Fr.nil n0
  obtain ⟨G, pre0, hG⟩ : ∃ G : State → Prop, (∀ t, own_S p e below m s₁ 0 #[lvI (1 : Int32)] [] t → G t) ∧ (∀ t, G t → Steps p.tables e below (s₁.setTop (entryFrame m #[(.int (1 : Int32))] 1)) t) := ⟨fun t => Steps p.tables e below (s₁.setTop (entryFrame m #[(.int (1 : Int32))] 1)) t, fun t k => castTop (efnewBytesFor2 m ) k, fun _ k => k⟩
  have K0 : Keep h0 h0 [] := Keep.refl _ _
  obtain ⟨_, _, ⟨T1, L1, k1, n1⟩, -, X1, ⟨Lc1, hQ1, l1, y1, z1⟩, st1⟩ := Jvm.LawKit.callS X0 hx (y := (⟨"java/lang/StringUTF16", "newBytesLength", "(I)I"⟩ : MethodName)) hown (mvT hZ (own_w hw 52 rfl)) (mvT hZ (own_w hw 53 rfl)) (mvT hZ (own_w hw 17 rfl)) (mvT hZ (own_w hw 54 rfl)) (by decide) (backOf (W := 0) (rmnewBytesLength3 l Z a0 hw []  h0 n0 O0 ) hZ (own_w hw 54 rfl) (own_w hw 17 rfl) (by decide) (by decide)) (g := (mkF m 1 #[lvI (1 : Int32)] [(.int (1 : Int32))])) rfl (by rw [hml]; rfl) (argsL := [(.int (1 : Int32))]) (rest := []) (lenOf pd_1 rfl) rfl (by show 2 * 0 + _ ≤ _; exact Nat.le_of_eq rfl) (hb hby d4_1) (fun _ _ => ⟨rfl, e0, (by decide : 0 + 0 ≤ _), (by decide : 0 + 0 ≤ _)⟩)
  dsimp only [Pt.U, Pt.locs, Pt.cells, Pt.slots] at X1 l1 y1 z1 st1 hQ1
  subst l1 y1 z1
  obtain ⟨h1, e1⟩ : ∃ z, T1.heap = z := ⟨_, rfl⟩
  rw [e1] at hQ1
  obtain ⟨rfl, N1q, hh1⟩ := hQ1
  have N2 := Fr.app N0 N1q
  have e1' : T1.heap = h0 := e1.trans hh1
  obtain ⟨T3, h3, k3, X3, e3, E3, A3, Z3, st3⟩ := newPE X1 hx hZ (own_w hw 19 rfl) e1' (g := (mkF m 4 #[lvI (1 : Int32)] [(.int (2 : Int32))])) rfl (hb hby d4_4) rfl (by decide) (cap := 2) (by decide) (by decide) (by decide) (by decide) (ad := "[B") (by decide)
  obtain ⟨b3, g3⟩ : ∃ z, z = h0.size := ⟨_, rfl⟩
  rw [← g3] at A3 Z3 st3
  have ge4 : n0 ≤ b3 := Nat.le_trans (Nat.le_trans (Nat.le_of_eq O0.1.symm) O0.2.1) (Nat.le_of_eq g3.symm)
  have sz5 : h0.size ≤ b3 := Nat.le_trans K0.1 (Nat.le_of_eq g3.symm)
  have f6 : Arv Z h3 b3 k3 .byte (2 : Int32) [(.int (0 : Int32)), (.int (0 : Int32))] (.int (0 : Int32)) := (Arv.new A3 (by decide)).pad (pad_rep [] (.int (0 : Int32)) 2)
  have pre7 : ∀ t, own_S p e below m T3 6 #[lvI (1 : Int32)] [(.ref b3)] t → G t := by
    intro t kt
    refine pre0 t ?_
    show own_S p e below m s₁ 0 #[lvI (1 : Int32)] [] _
    refine XS.iloadN X0.here hx rfl (hb hby d4_0) rfl ?_
    show own_S p e below m s₁ 1 #[lvI (1 : Int32)] [(.int (1 : Int32))] _
    refine st1 _ ?_
    show own_S p e below m T1 4 #[lvI (1 : Int32)] [(.int (2 : Int32))] _
    refine st3 _ ?_
    exact kt
  have f9 : Keep h0 h3 [] := K0.ext E3
  obtain ⟨fs, hr, hrun, hended, hW, hsame⟩ := X3.leave (v := some (.ref b3)) (fun h => by rw [Bd.returns] at h; cases h)
  refine ⟨_, _, hG _ (pre7 _ (retOut X3 hx Bd.returns rfl (Or.inr (Or.inr (Or.inr (Or.inr ⟨rfl, rfl, rfl⟩)))) (hb hby d4_6) hr)), hrun, hended, _, _, rfl, ?_, ⟨_, rfl⟩, hW, hsame.mono (by decide) (by decide)⟩
  show QnewBytesFor2 Z  h0 n0 _ T3.heap _
  rw [e3]
  exact ⟨k3, b3, rfl, N2, f9, sz5, f6, Z3⟩
theorem pd_2 : parseMethodDescriptor "(I)[B" = some ⟨[.int], some (.array .byte)⟩ := by decide +kernel
theorem d3_4 : decode jdk_52_method_14_code 4 = .ok (.astore_n 3, 1) := by decide +kernel
theorem d3_5 : decode jdk_52_method_14_code 5 = .ok (.iconst 0, 1) := by decide +kernel
theorem d3_6 : decode jdk_52_method_14_code 6 = .ok (.istore 4, 2) := by decide +kernel
theorem d3_8 : decode jdk_52_method_14_code 8 = .ok (.iload 4, 2) := by decide +kernel
theorem d3_10 : decode jdk_52_method_14_code 10 = .ok (.iload_n 2, 1) := by decide +kernel
theorem d3_11 : decode jdk_52_method_14_code 11 = .ok (.if_icmp .ge 21, 3) := by decide +kernel
theorem d3_14 : decode jdk_52_method_14_code 14 = .ok (.aload_n 3, 1) := by decide +kernel
theorem d3_15 : decode jdk_52_method_14_code 15 = .ok (.iload 4, 2) := by decide +kernel
theorem d3_17 : decode jdk_52_method_14_code 17 = .ok (.aload_n 0, 1) := by decide +kernel
theorem d3_18 : decode jdk_52_method_14_code 18 = .ok (.iload_n 1, 1) := by decide +kernel
theorem d3_19 : decode jdk_52_method_14_code 19 = .ok (.caload, 1) := by decide +kernel
theorem d3_20 : decode jdk_52_method_14_code 20 = .ok (.invokestatic 111, 3) := by decide +kernel
theorem d6_0 : decode jdk_52_method_4_code 0 = .ok (.getstatic 44, 3) := by decide +kernel
theorem d6_3 : decode jdk_52_method_4_code 3 = .ok (.ifCond .ne 25, 3) := by decide +kernel
theorem d6_28 : decode jdk_52_method_4_code 28 = .ok (.iload_n 1, 1) := by decide +kernel
theorem d6_29 : decode jdk_52_method_4_code 29 = .ok (.iconst 1, 1) := by decide +kernel
theorem d6_30 : decode jdk_52_method_4_code 30 = .ok (.ishl, 1) := by decide +kernel
theorem d6_31 : decode jdk_52_method_4_code 31 = .ok (.istore_n 1, 1) := by decide +kernel
theorem d6_32 : decode jdk_52_method_4_code 32 = .ok (.aload_n 0, 1) := by decide +kernel
theorem d6_33 : decode jdk_52_method_4_code 33 = .ok (.iload_n 1, 1) := by decide +kernel
theorem d6_34 : decode jdk_52_method_4_code 34 = .ok (.iinc 1 1, 3) := by decide +kernel
theorem d6_37 : decode jdk_52_method_4_code 37 = .ok (.iload_n 2, 1) := by decide +kernel
theorem d6_38 : decode jdk_52_method_4_code 38 = .ok (.getstatic 59, 3) := by decide +kernel
theorem d6_41 : decode jdk_52_method_4_code 41 = .ok (.ishr, 1) := by decide +kernel
theorem d6_42 : decode jdk_52_method_4_code 42 = .ok (.i2b, 1) := by decide +kernel
theorem d6_43 : decode jdk_52_method_4_code 43 = .ok (.bastore, 1) := by decide +kernel
theorem d6_44 : decode jdk_52_method_4_code 44 = .ok (.aload_n 0, 1) := by decide +kernel
theorem d6_45 : decode jdk_52_method_4_code 45 = .ok (.iload_n 1, 1) := by decide +kernel
theorem d6_46 : decode jdk_52_method_4_code 46 = .ok (.iload_n 2, 1) := by decide +kernel
theorem d6_47 : decode jdk_52_method_4_code 47 = .ok (.getstatic 63, 3) := by decide +kernel
theorem d6_50 : decode jdk_52_method_4_code 50 = .ok (.ishr, 1) := by decide +kernel
theorem d6_51 : decode jdk_52_method_4_code 51 = .ok (.i2b, 1) := by decide +kernel
theorem d6_52 : decode jdk_52_method_4_code 52 = .ok (.bastore, 1) := by decide +kernel
theorem d6_53 : decode jdk_52_method_4_code 53 = .ok (.return_, 1) := by decide +kernel
theorem efputChar7 (m : MethodId) (o0_ : Addr) (x0_ : Int32) : entryFrame m #[(.ref o0_), (.int (0 : Int32)), (.int x0_)] 3 = mkF m 0 #[lvR o0_, lvI (0 : Int32), lvI x0_] [] := by first | (simp [entryFrame, mkF, argsToLocals, Value.category]; done) | rfl
def QputChar7 (Z : State) (o0_ : Addr) (x0_ : Int32) (ko0_ : ClassId) (h0 : Heap) (n0 : Nat) (v : Option Value) (h : Heap) (L : List Loc) : Prop := v = none ∧ Fr n0 L ∧ Keep h0 h [o0_] ∧ Arv Z h o0_ ko0_ .byte (2 : Int32) [(.int ((x0_ >>> ((0 : Int32) &&& 31)).toInt8.toInt32)), (.int ((x0_ >>> ((8 : Int32) &&& 31)).toInt8.toInt32))] (.int (0 : Int32)) ∧ Exa Z h o0_ "[B"
set_option maxRecDepth 65536 in
set_option maxHeartbeats 40000000 in
theorem rmputChar7 (l : Launch) (Z : State) (a0 : Array Value) (hw : ∀ d ∈ tables_1, d.before a0 Z = true) (ws : List Jvm.Cond) (o0_ : Addr) (x0_ : Int32) (ko0_ : ClassId) (h0 : Heap) (n0 : Nat) (O0 : Old Z n0 h0) (P0 : Arv Z h0 o0_ ko0_ .byte (2 : Int32) [(.int (0 : Int32)), (.int (0 : Int32))] (.int (0 : Int32))) (P1 : Exa Z h0 o0_ "[B") (P2 : Sta Z Z.heap "java/lang/StringUTF16" "$assertionsDisabled" "Z" (.int (1 : Int32))) (P3 : Sta Z Z.heap "java/lang/StringUTF16" "HI_BYTE_SHIFT" "I" (.int (0 : Int32))) (P4 : n0 ≤ o0_) (P5 : Sta Z Z.heap "java/lang/StringUTF16" "LO_BYTE_SHIFT" "I" (.int (8 : Int32))) :
    MetFree l (⟨"java/lang/StringUTF16", "putChar", "([BII)V"⟩ : MethodName) (head1 (Jvm.Cond.code (⟨"java/lang/StringUTF16", "putChar", "([BII)V"⟩ : MethodName) jdk_52_method_4_code 3 none :: ws) ({ frames := 0, cells := 0, slots := 0, locals := 0 } : Room)) (fun a U => a = #[(.ref o0_), (.int (0 : Int32)), (.int x0_)] ∧ Z.Warmed39 U.vm ∧ U.heap = h0) (fun _ _ _ _ _ => True) (fun _ U o U' => ∃ v L, o = .returned v ∧ QputChar7 Z o0_ x0_ ko0_ h0 n0 v U'.heap L ∧ FrameEnd U o U' L ({ frames := 0, cells := 0, slots := 0, locals := 0 } : Room).cells ({ frames := 0, cells := 0, slots := 0, locals := 0 } : Room).slots) := by
  refine MetFree.of_bodySF (plainFor_of_name pn_0) hisR ?_
  intro p e s m args below meth c s₁ Bd hml0 hP hK
  obtain ⟨rfl, hZ, hh⟩ := hP
  have hx := Bd.exec
  have hby := Bd.bytes
  have hml : c.maxLocals = 3 := hml0
  have hown : s.vm.findClass "java/lang/StringUTF16" = some m.cls := findClass_of_methodNamed Bd.named
  have hnm := (name_of_methodNamed Bd.named Bd.method).1
  have X0 : Stand p l e ({ frames := 0, cells := 0, slots := 0, locals := 0 } : Room) s m #[(.ref o0_), (.int (0 : Int32)), (.int x0_)] below meth c s₁ [] 0 0 := Stand.of_body Bd
  have e0 : s₁.heap = h0 := by rw [← hh, Bd.state]; rfl
  have N0 := Fr.nil n0
  obtain ⟨G, pre0, hG⟩ : ∃ G : State → Prop, (∀ t, own_S p e below m s₁ 0 #[lvR o0_, lvI (0 : Int32), lvI x0_] [] t → G t) ∧ (∀ t, G t → Steps p.tables e below (s₁.setTop (entryFrame m #[(.ref o0_), (.int (0 : Int32)), (.int x0_)] 3)) t) := ⟨fun t => Steps p.tables e below (s₁.setTop (entryFrame m #[(.ref o0_), (.int (0 : Int32)), (.int x0_)] 3)) t, fun t k => castTop (efputChar7 m o0_ x0_) k, fun _ k => k⟩
  have K0 : Keep h0 h0 [o0_] := Keep.refl _ _
  obtain ⟨T1, X1, e1, st1⟩ := getS2 X0 hx hZ hown (host := "") (Or.inl (own_w hw 59 rfl)) Via.refl e0 (P2.ext O0.2) (g := (mkF m 0 #[lvR o0_, lvI (0 : Int32), lvI x0_] [])) rfl (hb hby d6_0)
  obtain ⟨T2, X2, e2, st2⟩ := getS2 X1 hx hZ hown (host := "") (Or.inl (own_w hw 60 rfl)) Via.refl e1 (P3.ext O0.2) (g := (mkF m 38 #[lvR o0_, lvI (1 : Int32), lvI x0_] [(.int x0_), (.int (0 : Int32)), (.ref o0_)])) rfl (hb hby d6_38)
  obtain ⟨c3, r3, q3, s3, z3, y3, G3⟩ := id P0
  have hin3 : ¬ ((0 : Int32) < 0 ∨ c3.slots.size ≤ ((0 : Int32)).toNatClampNeg) := inb_of s3 ⟨by decide, by decide⟩
  obtain ⟨T3, h3, X3, e3, W3, st3⟩ := stB X2 hx hZ e2 r3 (j := (0 : Int32)) hin3 (g := (mkF m 43 #[lvR o0_, lvI (1 : Int32), lvI x0_] [(.int ((x0_ >>> ((0 : Int32) &&& 31)).toInt8.toInt32)), (.int (0 : Int32)), (.ref o0_)])) rfl rfl (hb hby d6_43)
  have N4 := Fr.snoc X3 N0 P4
  have f5 : Arv Z h3 o0_ ko0_ .byte (2 : Int32) [(.int (((x0_ >>> ((0 : Int32) &&& 31)).toInt8.toInt32).toInt8.toInt32)), (.int (0 : Int32))] (.int (0 : Int32)) := Arv.set r3 q3 s3 z3 y3 G3 (fits_nar_byte _) W3 0 rfl (Nat.le_of_ble_eq_true rfl)
  have f6 : Arv Z h3 o0_ ko0_ .byte (2 : Int32) [(.int ((x0_ >>> ((0 : Int32) &&& 31)).toInt8.toInt32)), (.int (0 : Int32))] (.int (0 : Int32)) := by have q := f5; rw [own_i2b2] at q; exact q
  have f7 : Old Z n0 h3 := O0.wr W3 P4
  obtain ⟨T8, X8, e8, st8⟩ := getS2 X3 hx hZ hown (host := "") (Or.inl (own_w hw 61 rfl)) Via.refl e3 (P5.ext f7.2) (g := (mkF m 47 #[lvR o0_, lvI (1 : Int32), lvI x0_] [(.int x0_), (.int (1 : Int32)), (.ref o0_)])) rfl (hb hby d6_47)
  obtain ⟨c9, r9, q9, s9, z9, y9, G9⟩ := id f6
  have hin9 : ¬ ((1 : Int32) < 0 ∨ c9.slots.size ≤ ((1 : Int32)).toNatClampNeg) := inb_of s9 ⟨by decide, by decide⟩
  obtain ⟨T9, h9, X9, e9, W9, st9⟩ := stB X8 hx hZ e8 r9 (j := (1 : Int32)) hin9 (g := (mkF m 52 #[lvR o0_, lvI (1 : Int32), lvI x0_] [(.int ((x0_ >>> ((8 : Int32) &&& 31)).toInt8.toInt32)), (.int (1 : Int32)), (.ref o0_)])) rfl rfl (hb hby d6_52)
  have N10 := Fr.snoc X9 N4 P4
  have f11 : Arv Z h9 o0_ ko0_ .byte (2 : Int32) [(.int ((x0_ >>> ((0 : Int32) &&& 31)).toInt8.toInt32)), (.int (((x0_ >>> ((8 : Int32) &&& 31)).toInt8.toInt32).toInt8.toInt32))] (.int (0 : Int32)) := Arv.set r9 q9 s9 z9 y9 G9 (fits_nar_byte _) W9 1 rfl (Nat.le_of_ble_eq_true rfl)
  have f12 : Arv Z h9 o0_ ko0_ .byte (2 : Int32) [(.int ((x0_ >>> ((0 : Int32) &&& 31)).toInt8.toInt32)), (.int ((x0_ >>> ((8 : Int32) &&& 31)).toInt8.toInt32))] (.int (0 : Int32)) := by have q := f11; rw [own_i2b2] at q; exact q
  have pre13 : ∀ t, own_S p e below m T9 53 #[lvR o0_, lvI (1 : Int32), lvI x0_] [] t → G t := by
    intro t kt
    refine pre0 t ?_
    show own_S p e below m s₁ 0 #[lvR o0_, lvI (0 : Int32), lvI x0_] [] _
    refine st1 _ ?_
    show own_S p e below m T1 3 #[lvR o0_, lvI (0 : Int32), lvI x0_] [(.int (1 : Int32))] _
    refine XS.ifYes X1.here hx rfl (pc0 := 3) (pc' := 28) rfl (hb hby d6_3) rfl ((if0 _ _).trans (feq (by decide : ¬ ((1 : Int32) = (0 : Int32)))).2) (by decide) (by decide) ?_
    refine XS.iloadN X1.here hx rfl (hb hby d6_28) rfl ?_
    refine XS.iconst X1.here hx rfl (hb hby d6_29) ?_
    show own_S p e below m T1 30 #[lvR o0_, lvI (0 : Int32), lvI x0_] [(.int (1 : Int32)), (.int (0 : Int32))] _
    refine XS.ishl X1.here hx rfl (hb hby d6_30) rfl ?_
    refine XS.istoreN X1.here hx rfl (hb hby d6_31) rfl (l' := #[lvR o0_, lvI (0 : Int32), lvI x0_]) rfl ?_
    refine XS.aloadN X1.here hx rfl (hb hby d6_32) rfl rfl ?_
    refine XS.iloadN X1.here hx rfl (hb hby d6_33) rfl ?_
    refine XS.iinc X1.here hx rfl (hb hby d6_34) rfl (l' := #[lvR o0_, lvI (1 : Int32), lvI x0_]) rfl ?_
    refine XS.iloadN X1.here hx rfl (hb hby d6_37) rfl ?_
    show own_S p e below m T1 38 #[lvR o0_, lvI (1 : Int32), lvI x0_] [(.int x0_), (.int (0 : Int32)), (.ref o0_)] _
    refine st2 _ ?_
    show own_S p e below m T2 41 #[lvR o0_, lvI (1 : Int32), lvI x0_] [(.int (0 : Int32)), (.int x0_), (.int (0 : Int32)), (.ref o0_)] _
    refine XS.ishr X2.here hx rfl (hb hby d6_41) rfl ?_
    show own_S p e below m T2 42 #[lvR o0_, lvI (1 : Int32), lvI x0_] [(.int (x0_ >>> ((0 : Int32) &&& 31))), (.int (0 : Int32)), (.ref o0_)] _
    refine XS.i2b X2.here hx rfl (hb hby d6_42) rfl ?_
    show own_S p e below m T2 43 #[lvR o0_, lvI (1 : Int32), lvI x0_] [(.int ((x0_ >>> ((0 : Int32) &&& 31)).toInt8.toInt32)), (.int (0 : Int32)), (.ref o0_)] _
    refine st3 _ ?_
    refine XS.aloadN X3.here hx rfl (hb hby d6_44) rfl rfl ?_
    refine XS.iloadN X3.here hx rfl (hb hby d6_45) rfl ?_
    refine XS.iloadN X3.here hx rfl (hb hby d6_46) rfl ?_
    show own_S p e below m T3 47 #[lvR o0_, lvI (1 : Int32), lvI x0_] [(.int x0_), (.int (1 : Int32)), (.ref o0_)] _
    refine st8 _ ?_
    show own_S p e below m T8 50 #[lvR o0_, lvI (1 : Int32), lvI x0_] [(.int (8 : Int32)), (.int x0_), (.int (1 : Int32)), (.ref o0_)] _
    refine XS.ishr X8.here hx rfl (hb hby d6_50) rfl ?_
    show own_S p e below m T8 51 #[lvR o0_, lvI (1 : Int32), lvI x0_] [(.int (x0_ >>> ((8 : Int32) &&& 31))), (.int (1 : Int32)), (.ref o0_)] _
    refine XS.i2b X8.here hx rfl (hb hby d6_51) rfl ?_
    show own_S p e below m T8 52 #[lvR o0_, lvI (1 : Int32), lvI x0_] [(.int ((x0_ >>> ((8 : Int32) &&& 31)).toInt8.toInt32)), (.int (1 : Int32)), (.ref o0_)] _
    refine st9 _ ?_
    exact kt
  have f15 : Keep h0 h3 [o0_] := K0.wr W3 (Or.inl (List.mem_of_getElem? (i := 0) rfl))
  have f16 : Keep h0 h9 [o0_] := f15.wr W9 (Or.inl (List.mem_of_getElem? (i := 0) rfl))
  have f17 : Exa Z h3 o0_ "[B" := P1.wr W3
  have f18 : Exa Z h9 o0_ "[B" := f17.wr W9
  obtain ⟨fs, hr, hrun, hended, hW, hsame⟩ := X9.leave (v := none) (fun _ => rfl)
  refine ⟨_, _, hG _ (pre13 _ (X9.returnOut hx Bd.returns (hb hby d6_53) hr)), hrun, hended, _, _, rfl, ?_, ⟨_, rfl⟩, hW, hsame.mono (by decide) (by decide)⟩
  show QputChar7 Z o0_ x0_ ko0_ h0 n0 _ T9.heap _
  rw [e9]
  exact ⟨rfl, N10, f16, f12, f18⟩
theorem pd_3 : parseMethodDescriptor "([BII)V" = some ⟨[(.array .byte), .int, .int], none⟩ := by decide +kernel
theorem d3_23 : decode jdk_52_method_14_code 23 = .ok (.iinc 1 1, 3) := by decide +kernel
theorem d3_26 : decode jdk_52_method_14_code 26 = .ok (.iinc 4 1, 3) := by decide +kernel
theorem d3_29 : decode jdk_52_method_14_code 29 = .ok (.goto (-21), 3) := by decide +kernel
theorem d3_32 : decode jdk_52_method_14_code 32 = .ok (.aload_n 3, 1) := by decide +kernel
theorem d3_33 : decode jdk_52_method_14_code 33 = .ok (.areturn, 1) := by decide +kernel
theorem eftoBytes1 (m : MethodId) (o0_ : Addr) : entryFrame m #[(.ref o0_), (.int (0 : Int32)), (.int (1 : Int32))] 5 = mkF m 0 #[lvR o0_, lvI (0 : Int32), lvI (1 : Int32), .unset, .unset] [] := by first | (simp [entryFrame, mkF, argsToLocals, Value.category]; done) | rfl
def QtoBytes1 (Z : State) (o0_ : Addr) (ko0_ : ClassId) (x0_ : Int32) (h0 : Heap) (n0 : Nat) (v : Option Value) (h : Heap) (L : List Loc) : Prop := ∃ k3_1 : ClassId, ∃ nnb3_1 : Addr, v = some (.ref nnb3_1) ∧ Fr n0 L ∧ Keep h0 h [] ∧ h0.size ≤ nnb3_1 ∧ Arv Z h nnb3_1 k3_1 .byte (2 : Int32) [(.int ((x0_ >>> ((0 : Int32) &&& 31)).toInt8.toInt32)), (.int ((x0_ >>> ((8 : Int32) &&& 31)).toInt8.toInt32))] (.int (0 : Int32)) ∧ Exa Z h nnb3_1 "[B"
set_option maxRecDepth 65536 in
set_option maxHeartbeats 40000000 in
theorem rmtoBytes1 (l : Launch) (Z : State) (a0 : Array Value) (hw : ∀ d ∈ tables_1, d.before a0 Z = true) (ws : List Jvm.Cond) (o0_ : Addr) (ko0_ : ClassId) (x0_ : Int32) (h0 : Heap) (n0 : Nat) (O0 : Old Z n0 h0) (P0 : Arv Z h0 o0_ ko0_ .char (1 : Int32) [(.int x0_)] (.int (0 : Int32))) (P1 : Sta Z Z.heap "java/lang/StringUTF16" "$assertionsDisabled" "Z" (.int (1 : Int32))) (P2 : Sta Z Z.heap "java/lang/StringUTF16" "HI_BYTE_SHIFT" "I" (.int (0 : Int32))) (P3 : Sta Z Z.heap "java/lang/StringUTF16" "LO_BYTE_SHIFT" "I" (.int (8 : Int32))) :
    MetFree l (⟨"java/lang/StringUTF16", "toBytes", "([CII)[B"⟩ : MethodName) (head1 (Jvm.Cond.code (⟨"java/lang/StringUTF16", "toBytes", "([CII)[B"⟩ : MethodName) jdk_52_method_14_code 5 (some (.array .byte)) :: ws) ({ frames := 2, cells := 1, slots := 2, locals := 24 } : Room)) (fun a U => a = #[(.ref o0_), (.int (0 : Int32)), (.int (1 : Int32))] ∧ Z.Warmed39 U.vm ∧ U.heap = h0) (fun _ _ _ _ _ => True) (fun _ U o U' => ∃ v L, o = .returned v ∧ QtoBytes1 Z o0_ ko0_ x0_ h0 n0 v U'.heap L ∧ FrameEnd U o U' L ({ frames := 2, cells := 1, slots := 2, locals := 24 } : Room).cells ({ frames := 2, cells := 1, slots := 2, locals := 24 } : Room).slots) := by
  refine MetFree.of_bodySF (plainFor_of_name pn_0) hisR ?_
  intro p e s m args below meth c s₁ Bd hml0 hP hK
  obtain ⟨rfl, hZ, hh⟩ := hP
  have hx := Bd.exec
  have hby := Bd.bytes
  have hml : c.maxLocals = 5 := hml0
  have hown : s.vm.findClass "java/lang/StringUTF16" = some m.cls := findClass_of_methodNamed Bd.named
  have hnm := (name_of_methodNamed Bd.named Bd.method).1
  have X0 : Stand p l e ({ frames := 2, cells := 1, slots := 2, locals := 24 } : Room) s m #[(.ref o0_), (.int (0 : Int32)), (.int (1 : Int32))] below meth c s₁ [] 0 0 := Stand.of_body Bd
  have e0 : s₁.heap = h0 := by rw [← hh, Bd.state]; rfl
  have N0 := Fr.nil n0
  obtain ⟨G, pre0, hG⟩ : ∃ G : State → Prop, (∀ t, own_S p e below m s₁ 0 #[lvR o0_, lvI (0 : Int32), lvI (1 : Int32), .unset, .unset] [] t → G t) ∧ (∀ t, G t → Steps p.tables e below (s₁.setTop (entryFrame m #[(.ref o0_), (.int (0 : Int32)), (.int (1 : Int32))] 5)) t) := ⟨fun t => Steps p.tables e below (s₁.setTop (entryFrame m #[(.ref o0_), (.int (0 : Int32)), (.int (1 : Int32))] 5)) t, fun t k => castTop (eftoBytes1 m o0_) k, fun _ k => k⟩
  have K0 : Keep h0 h0 [] := Keep.refl _ _
  obtain ⟨_, _, ⟨T1, L1, k1, n1⟩, -, X1, ⟨Lc1, hQ1, l1, y1, z1⟩, st1⟩ := Jvm.LawKit.callS X0 hx (y := (⟨"java/lang/StringUTF16", "newBytesFor", "(I)[B"⟩ : MethodName)) hown (mvT hZ (own_w hw 49 rfl)) (mvT hZ (own_w hw 50 rfl)) (mvT hZ (own_w hw 17 rfl)) (mvT hZ (own_w hw 51 rfl)) (by decide) (backOf (W := 0) (rmnewBytesFor2 l Z a0 hw []  h0 n0 O0 ) hZ (own_w hw 51 rfl) (own_w hw 17 rfl) (by decide) (by decide)) (g := (mkF m 1 #[lvR o0_, lvI (0 : Int32), lvI (1 : Int32), .unset, .unset] [(.int (1 : Int32))])) rfl (by rw [hml]; rfl) (argsL := [(.int (1 : Int32))]) (rest := []) (lenOf pd_2 rfl) rfl (by show 2 * 0 + _ ≤ _; exact Nat.le_of_eq rfl) (hb hby d3_1) (fun _ _ => ⟨rfl, e0, (by decide : 0 + 1 ≤ _), (by decide : 0 + 2 ≤ _)⟩)
  dsimp only [Pt.U, Pt.locs, Pt.cells, Pt.slots] at X1 l1 y1 z1 st1 hQ1
  subst l1 y1 z1
  obtain ⟨h1, e1⟩ : ∃ z, T1.heap = z := ⟨_, rfl⟩
  rw [e1] at hQ1
  obtain ⟨k3_1, nb3_1, rfl, N1q, K1, sznb3_1, g1_0, g1_1⟩ := hQ1
  have N2 := Fr.app N0 N1q
  have ge3 : n0 ≤ nb3_1 := Nat.le_trans (Nat.le_trans (Nat.le_of_eq O0.1.symm) O0.2.1) sznb3_1
  have sz4 : h0.size ≤ nb3_1 := Nat.le_trans K0.1 sznb3_1
  have f5 : Arv Z h1 o0_ ko0_ .char (1 : Int32) [(.int x0_)] (.int (0 : Int32)) := P0.keep K1 nin0
  obtain ⟨c6, r6, q6, s6, z6, y6, G6⟩ := id f5
  have hin6 : ¬ ((0 : Int32) < 0 ∨ c6.slots.size ≤ ((0 : Int32)).toNatClampNeg) := inb_of s6 ⟨by decide, by decide⟩
  have hat6 : c6.slots[((0 : Int32)).toNatClampNeg]? = some (.int x0_) := Has.at y6 hin6 rfl
  have f8 : Old Z n0 h1 := O0.keep K1 all0
  obtain ⟨_, _, ⟨T7, L7, k7, n7⟩, -, X7, ⟨Lc7, hQ7, l7, y7, z7⟩, st7⟩ := Jvm.LawKit.callS X1 hx (y := (⟨"java/lang/StringUTF16", "putChar", "([BII)V"⟩ : MethodName)) hown (mvT hZ (own_w hw 56 rfl)) (mvT hZ (own_w hw 57 rfl)) (mvT hZ (own_w hw 17 rfl)) (mvT hZ (own_w hw 58 rfl)) (by decide) (backOf (W := 0) (rmputChar7 l Z a0 hw [] nb3_1 x0_ k3_1 h1 n0 f8 g1_0 g1_1 P1 P2 ge3 P3) hZ (own_w hw 58 rfl) (own_w hw 17 rfl) (by decide) (by decide)) (g := (mkF m 20 #[lvR o0_, lvI (0 : Int32), lvI (1 : Int32), lvR nb3_1, lvI (0 : Int32)] [(.int x0_), (.int (0 : Int32)), (.ref nb3_1)])) rfl (by rw [hml]; rfl) (argsL := [(.ref nb3_1), (.int (0 : Int32)), (.int x0_)]) (rest := []) (lenOf pd_3 rfl) rfl (by show 2 * 0 + _ ≤ _; exact Nat.le_of_eq rfl) (hb hby d3_20) (fun _ _ => ⟨rfl, e1, (by decide : 1 + 0 ≤ _), (by decide : 2 + 0 ≤ _)⟩)
  dsimp only [Pt.U, Pt.locs, Pt.cells, Pt.slots] at X7 l7 y7 z7 st7 hQ7
  subst l7 y7 z7
  obtain ⟨h7, e7⟩ : ∃ z, T7.heap = z := ⟨_, rfl⟩
  rw [e7] at hQ7
  obtain ⟨rfl, N7q, K7, g7_0, g7_1⟩ := hQ7
  have N9 := Fr.app N2 N7q
  have pre10 : ∀ t, own_S p e below m T7 33 #[lvR o0_, lvI (1 : Int32), lvI (1 : Int32), lvR nb3_1, lvI (1 : Int32)] [(.ref nb3_1)] t → G t := by
    intro t kt
    refine pre0 t ?_
    show own_S p e below m s₁ 0 #[lvR o0_, lvI (0 : Int32), lvI (1 : Int32), .unset, .unset] [] _
    refine XS.iloadN X0.here hx rfl (hb hby d3_0) rfl ?_
    show own_S p e below m s₁ 1 #[lvR o0_, lvI (0 : Int32), lvI (1 : Int32), .unset, .unset] [(.int (1 : Int32))] _
    refine st1 _ ?_
    refine XS.astoreN X1.here hx rfl (hb hby d3_4) rfl rfl (l' := #[lvR o0_, lvI (0 : Int32), lvI (1 : Int32), lvR nb3_1, .unset]) rfl ?_
    refine XS.iconst X1.here hx rfl (hb hby d3_5) ?_
    refine XS.istore X1.here hx rfl (hb hby d3_6) rfl (l' := #[lvR o0_, lvI (0 : Int32), lvI (1 : Int32), lvR nb3_1, lvI (0 : Int32)]) rfl ?_
    refine XS.iload X1.here hx rfl (hb hby d3_8) rfl ?_
    refine XS.iloadN X1.here hx rfl (hb hby d3_10) rfl ?_
    show own_S p e below m T1 11 #[lvR o0_, lvI (0 : Int32), lvI (1 : Int32), lvR nb3_1, lvI (0 : Int32)] [(.int (1 : Int32)), (.int (0 : Int32))] _
    refine XS.icmpNo X1.here hx rfl (hb hby d3_11) rfl (tlt (by decide : (0 : Int32) < (1 : Int32))).2.1 ?_
    refine XS.aloadN X1.here hx rfl (hb hby d3_14) rfl rfl ?_
    refine XS.iload X1.here hx rfl (hb hby d3_15) rfl ?_
    refine XS.aloadN X1.here hx rfl (hb hby d3_17) rfl rfl ?_
    refine XS.iloadN X1.here hx rfl (hb hby d3_18) rfl ?_
    show own_S p e below m T1 19 #[lvR o0_, lvI (0 : Int32), lvI (1 : Int32), lvR nb3_1, lvI (0 : Int32)] [(.int (0 : Int32)), (.ref o0_), (.int (0 : Int32)), (.ref nb3_1)] _
    refine X1.caload hx (j := (0 : Int32)) (v := (.int x0_)) (by rw [e1]; exact r6.1) (State.isArrayOf_alike hZ.alike r6.2.1) r6.2.2 hin6 hat6 (g := (mkF m 19 #[lvR o0_, lvI (0 : Int32), lvI (1 : Int32), lvR nb3_1, lvI (0 : Int32)] [(.int (0 : Int32)), (.ref o0_), (.int (0 : Int32)), (.ref nb3_1)])) rfl rfl (hb hby d3_19) _ ?_
    show own_S p e below m T1 20 #[lvR o0_, lvI (0 : Int32), lvI (1 : Int32), lvR nb3_1, lvI (0 : Int32)] [(.int x0_), (.int (0 : Int32)), (.ref nb3_1)] _
    refine st7 _ ?_
    refine XS.iinc X7.here hx rfl (hb hby d3_23) rfl (l' := #[lvR o0_, lvI (1 : Int32), lvI (1 : Int32), lvR nb3_1, lvI (0 : Int32)]) rfl ?_
    refine XS.iinc X7.here hx rfl (hb hby d3_26) rfl (l' := #[lvR o0_, lvI (1 : Int32), lvI (1 : Int32), lvR nb3_1, lvI (1 : Int32)]) rfl ?_
    refine XS.goto X7.here hx rfl (pc0 := 29) (pc' := 8) rfl (hb hby d3_29) (by decide) (by decide) ?_
    refine XS.iload X7.here hx rfl (hb hby d3_8) rfl ?_
    refine XS.iloadN X7.here hx rfl (hb hby d3_10) rfl ?_
    show own_S p e below m T7 11 #[lvR o0_, lvI (1 : Int32), lvI (1 : Int32), lvR nb3_1, lvI (1 : Int32)] [(.int (1 : Int32)), (.int (1 : Int32))] _
    refine XS.icmpYes X7.here hx rfl (pc0 := 11) (pc' := 32) rfl (hb hby d3_11) rfl (flt (by decide : ¬ ((1 : Int32) < (1 : Int32)))).2.1 (by decide) (by decide) ?_
    refine XS.aloadN X7.here hx rfl (hb hby d3_32) rfl rfl ?_
    exact kt
  have f12 : Keep h0 h1 [] := K0.trans K1 all0
  have f13 : Keep h0 h7 [] := f12.trans K7 (allS (Or.inr sz4) all0)
  obtain ⟨fs, hr, hrun, hended, hW, hsame⟩ := X7.leave (v := some (.ref nb3_1)) (fun h => by rw [Bd.returns] at h; cases h)
  refine ⟨_, _, hG _ (pre10 _ (retOut X7 hx Bd.returns rfl (Or.inr (Or.inr (Or.inr (Or.inr ⟨rfl, rfl, rfl⟩)))) (hb hby d3_33) hr)), hrun, hended, _, _, rfl, ?_, ⟨_, rfl⟩, hW, hsame.mono (by decide) (by decide)⟩
  show QtoBytes1 Z o0_ ko0_ x0_ h0 n0 _ T7.heap _
  rw [e7]
  exact ⟨k3_1, nb3_1, rfl, N9, f13, sz4, g7_0, g7_1⟩
theorem pd_4 : parseMethodDescriptor "([CII)[B" = some ⟨[(.array .char), .int, .int], some (.array .byte)⟩ := by decide +kernel
theorem d2_26 : decode jdk_52_method_16_code 26 = .ok (.astore 5, 2) := by decide +kernel
theorem d2_28 : decode jdk_52_method_16_code 28 = .ok (.aload 5, 2) := by decide +kernel
theorem d2_30 : decode jdk_52_method_16_code 30 = .ok (.iload 4, 2) := by decide +kernel
theorem d2_32 : decode jdk_52_method_16_code 32 = .ok (.invokestatic 71, 3) := by decide +kernel
theorem d7_0 : decode jdk_52_method_5_code 0 = .ok (.getstatic 44, 3) := by decide +kernel
theorem d7_3 : decode jdk_52_method_5_code 3 = .ok (.ifCond .ne 25, 3) := by decide +kernel
theorem d7_28 : decode jdk_52_method_5_code 28 = .ok (.iload_n 1, 1) := by decide +kernel
theorem d7_29 : decode jdk_52_method_5_code 29 = .ok (.iconst 1, 1) := by decide +kernel
theorem d7_30 : decode jdk_52_method_5_code 30 = .ok (.ishl, 1) := by decide +kernel
theorem d7_31 : decode jdk_52_method_5_code 31 = .ok (.istore_n 1, 1) := by decide +kernel
theorem d7_32 : decode jdk_52_method_5_code 32 = .ok (.aload_n 0, 1) := by decide +kernel
theorem d7_33 : decode jdk_52_method_5_code 33 = .ok (.iload_n 1, 1) := by decide +kernel
theorem d7_34 : decode jdk_52_method_5_code 34 = .ok (.iinc 1 1, 3) := by decide +kernel
theorem d7_37 : decode jdk_52_method_5_code 37 = .ok (.baload, 1) := by decide +kernel
theorem d7_38 : decode jdk_52_method_5_code 38 = .ok (.sipush 255, 3) := by decide +kernel
theorem d7_41 : decode jdk_52_method_5_code 41 = .ok (.iand, 1) := by decide +kernel
theorem d7_42 : decode jdk_52_method_5_code 42 = .ok (.getstatic 59, 3) := by decide +kernel
theorem d7_45 : decode jdk_52_method_5_code 45 = .ok (.ishl, 1) := by decide +kernel
theorem d7_46 : decode jdk_52_method_5_code 46 = .ok (.aload_n 0, 1) := by decide +kernel
theorem d7_47 : decode jdk_52_method_5_code 47 = .ok (.iload_n 1, 1) := by decide +kernel
theorem d7_48 : decode jdk_52_method_5_code 48 = .ok (.baload, 1) := by decide +kernel
theorem d7_49 : decode jdk_52_method_5_code 49 = .ok (.sipush 255, 3) := by decide +kernel
theorem d7_52 : decode jdk_52_method_5_code 52 = .ok (.iand, 1) := by decide +kernel
theorem d7_53 : decode jdk_52_method_5_code 53 = .ok (.getstatic 63, 3) := by decide +kernel
theorem d7_56 : decode jdk_52_method_5_code 56 = .ok (.ishl, 1) := by decide +kernel
theorem d7_57 : decode jdk_52_method_5_code 57 = .ok (.ior, 1) := by decide +kernel
theorem d7_58 : decode jdk_52_method_5_code 58 = .ok (.i2c, 1) := by decide +kernel
theorem d7_59 : decode jdk_52_method_5_code 59 = .ok (.ireturn, 1) := by decide +kernel
theorem efgetChar8 (m : MethodId) (o0_ : Addr) : entryFrame m #[(.ref o0_), (.int (0 : Int32))] 2 = mkF m 0 #[lvR o0_, lvI (0 : Int32)] [] := by first | (simp [entryFrame, mkF, argsToLocals, Value.category]; done) | rfl
def QgetChar8 (Z : State) (o0_ : Addr) (ko0_ : ClassId) (x0_ : Int32) (x1_ : Int32) (h0 : Heap) (n0 : Nat) (v : Option Value) (h : Heap) (L : List Loc) : Prop := v = some (.int ((((x0_ &&& (255 : Int32)) <<< ((0 : Int32) &&& 31)) ||| ((x1_ &&& (255 : Int32)) <<< ((8 : Int32) &&& 31))).toUInt32.toUInt16.toUInt32.toInt32)) ∧ Fr n0 L ∧ h = h0
set_option maxRecDepth 65536 in
set_option maxHeartbeats 40000000 in
theorem rmgetChar8 (l : Launch) (Z : State) (a0 : Array Value) (hw : ∀ d ∈ tables_1, d.before a0 Z = true) (ws : List Jvm.Cond) (o0_ : Addr) (ko0_ : ClassId) (x0_ : Int32) (x1_ : Int32) (h0 : Heap) (n0 : Nat) (O0 : Old Z n0 h0) (P0 : Arv Z h0 o0_ ko0_ .byte (2 : Int32) [(.int x0_), (.int x1_)] (.int (0 : Int32))) (P1 : Exa Z h0 o0_ "[B") (P2 : Sta Z Z.heap "java/lang/StringUTF16" "$assertionsDisabled" "Z" (.int (1 : Int32))) (P3 : Sta Z Z.heap "java/lang/StringUTF16" "HI_BYTE_SHIFT" "I" (.int (0 : Int32))) (P4 : Sta Z Z.heap "java/lang/StringUTF16" "LO_BYTE_SHIFT" "I" (.int (8 : Int32))) :
    MetFree l (⟨"java/lang/StringUTF16", "getChar", "([BI)C"⟩ : MethodName) (head1 (Jvm.Cond.code (⟨"java/lang/StringUTF16", "getChar", "([BI)C"⟩ : MethodName) jdk_52_method_5_code 2 (some .char) :: ws) ({ frames := 0, cells := 0, slots := 0, locals := 0 } : Room)) (fun a U => a = #[(.ref o0_), (.int (0 : Int32))] ∧ Z.Warmed39 U.vm ∧ U.heap = h0) (fun _ _ _ _ _ => True) (fun _ U o U' => ∃ v L, o = .returned v ∧ QgetChar8 Z o0_ ko0_ x0_ x1_ h0 n0 v U'.heap L ∧ FrameEnd U o U' L ({ frames := 0, cells := 0, slots := 0, locals := 0 } : Room).cells ({ frames := 0, cells := 0, slots := 0, locals := 0 } : Room).slots) := by
  refine MetFree.of_bodySF (plainFor_of_name pn_0) hisR ?_
  intro p e s m args below meth c s₁ Bd hml0 hP hK
  obtain ⟨rfl, hZ, hh⟩ := hP
  have hx := Bd.exec
  have hby := Bd.bytes
  have hml : c.maxLocals = 2 := hml0
  have hown : s.vm.findClass "java/lang/StringUTF16" = some m.cls := findClass_of_methodNamed Bd.named
  have hnm := (name_of_methodNamed Bd.named Bd.method).1
  have X0 : Stand p l e ({ frames := 0, cells := 0, slots := 0, locals := 0 } : Room) s m #[(.ref o0_), (.int (0 : Int32))] below meth c s₁ [] 0 0 := Stand.of_body Bd
  have e0 : s₁.heap = h0 := by rw [← hh, Bd.state]; rfl
  have N0 := Fr.nil n0
  obtain ⟨G, pre0, hG⟩ : ∃ G : State → Prop, (∀ t, own_S p e below m s₁ 0 #[lvR o0_, lvI (0 : Int32)] [] t → G t) ∧ (∀ t, G t → Steps p.tables e below (s₁.setTop (entryFrame m #[(.ref o0_), (.int (0 : Int32))] 2)) t) := ⟨fun t => Steps p.tables e below (s₁.setTop (entryFrame m #[(.ref o0_), (.int (0 : Int32))] 2)) t, fun t k => castTop (efgetChar8 m o0_) k, fun _ k => k⟩
  have K0 : Keep h0 h0 [] := Keep.refl _ _
  obtain ⟨T1, X1, e1, st1⟩ := getS2 X0 hx hZ hown (host := "") (Or.inl (own_w hw 59 rfl)) Via.refl e0 (P2.ext O0.2) (g := (mkF m 0 #[lvR o0_, lvI (0 : Int32)] [])) rfl (hb hby d7_0)
  obtain ⟨c2, r2, q2, s2, z2, y2, G2⟩ := id P0
  have hin2 : ¬ ((0 : Int32) < 0 ∨ c2.slots.size ≤ ((0 : Int32)).toNatClampNeg) := inb_of s2 ⟨by decide, by decide⟩
  have hat2 : c2.slots[((0 : Int32)).toNatClampNeg]? = some (.int x0_) := Has.at y2 hin2 rfl
  obtain ⟨T3, X3, e3, st3⟩ := getS2 X1 hx hZ hown (host := "") (Or.inl (own_w hw 60 rfl)) Via.refl e1 (P3.ext O0.2) (g := (mkF m 42 #[lvR o0_, lvI (1 : Int32)] [(.int (x0_ &&& (255 : Int32)))])) rfl (hb hby d7_42)
  obtain ⟨c4, r4, q4, s4, z4, y4, G4⟩ := id P0
  have hin4 : ¬ ((1 : Int32) < 0 ∨ c4.slots.size ≤ ((1 : Int32)).toNatClampNeg) := inb_of s4 ⟨by decide, by decide⟩
  have hat4 : c4.slots[((1 : Int32)).toNatClampNeg]? = some (.int x1_) := Has.at y4 hin4 rfl
  obtain ⟨T5, X5, e5, st5⟩ := getS2 X3 hx hZ hown (host := "") (Or.inl (own_w hw 61 rfl)) Via.refl e3 (P4.ext O0.2) (g := (mkF m 53 #[lvR o0_, lvI (1 : Int32)] [(.int (x1_ &&& (255 : Int32))), (.int ((x0_ &&& (255 : Int32)) <<< ((0 : Int32) &&& 31)))])) rfl (hb hby d7_53)
  have pre6 : ∀ t, own_S p e below m T5 59 #[lvR o0_, lvI (1 : Int32)] [(.int ((((x0_ &&& (255 : Int32)) <<< ((0 : Int32) &&& 31)) ||| ((x1_ &&& (255 : Int32)) <<< ((8 : Int32) &&& 31))).toUInt32.toUInt16.toUInt32.toInt32))] t → G t := by
    intro t kt
    refine pre0 t ?_
    show own_S p e below m s₁ 0 #[lvR o0_, lvI (0 : Int32)] [] _
    refine st1 _ ?_
    show own_S p e below m T1 3 #[lvR o0_, lvI (0 : Int32)] [(.int (1 : Int32))] _
    refine XS.ifYes X1.here hx rfl (pc0 := 3) (pc' := 28) rfl (hb hby d7_3) rfl ((if0 _ _).trans (feq (by decide : ¬ ((1 : Int32) = (0 : Int32)))).2) (by decide) (by decide) ?_
    refine XS.iloadN X1.here hx rfl (hb hby d7_28) rfl ?_
    refine XS.iconst X1.here hx rfl (hb hby d7_29) ?_
    show own_S p e below m T1 30 #[lvR o0_, lvI (0 : Int32)] [(.int (1 : Int32)), (.int (0 : Int32))] _
    refine XS.ishl X1.here hx rfl (hb hby d7_30) rfl ?_
    refine XS.istoreN X1.here hx rfl (hb hby d7_31) rfl (l' := #[lvR o0_, lvI (0 : Int32)]) rfl ?_
    refine XS.aloadN X1.here hx rfl (hb hby d7_32) rfl rfl ?_
    refine XS.iloadN X1.here hx rfl (hb hby d7_33) rfl ?_
    refine XS.iinc X1.here hx rfl (hb hby d7_34) rfl (l' := #[lvR o0_, lvI (1 : Int32)]) rfl ?_
    show own_S p e below m T1 37 #[lvR o0_, lvI (1 : Int32)] [(.int (0 : Int32)), (.ref o0_)] _
    refine X1.baloadBytes hx (j := (0 : Int32)) (v := (.int x0_)) (by rw [e1]; exact r2.1) (State.isArrayOf_alike hZ.alike r2.2.1) r2.2.2 hin2 hat2 (g := (mkF m 37 #[lvR o0_, lvI (1 : Int32)] [(.int (0 : Int32)), (.ref o0_)])) rfl rfl (hb hby d7_37) _ ?_
    refine XS.sipush X1.here hx rfl (hb hby d7_38) ?_
    refine XS.iand X1.here hx rfl (hb hby d7_41) rfl ?_
    show own_S p e below m T1 42 #[lvR o0_, lvI (1 : Int32)] [(.int (x0_ &&& (255 : Int32)))] _
    refine st3 _ ?_
    show own_S p e below m T3 45 #[lvR o0_, lvI (1 : Int32)] [(.int (0 : Int32)), (.int (x0_ &&& (255 : Int32)))] _
    refine XS.ishl X3.here hx rfl (hb hby d7_45) rfl ?_
    refine XS.aloadN X3.here hx rfl (hb hby d7_46) rfl rfl ?_
    refine XS.iloadN X3.here hx rfl (hb hby d7_47) rfl ?_
    show own_S p e below m T3 48 #[lvR o0_, lvI (1 : Int32)] [(.int (1 : Int32)), (.ref o0_), (.int ((x0_ &&& (255 : Int32)) <<< ((0 : Int32) &&& 31)))] _
    refine X3.baloadBytes hx (j := (1 : Int32)) (v := (.int x1_)) (by rw [e3]; exact r4.1) (State.isArrayOf_alike hZ.alike r4.2.1) r4.2.2 hin4 hat4 (g := (mkF m 48 #[lvR o0_, lvI (1 : Int32)] [(.int (1 : Int32)), (.ref o0_), (.int ((x0_ &&& (255 : Int32)) <<< ((0 : Int32) &&& 31)))])) rfl rfl (hb hby d7_48) _ ?_
    refine XS.sipush X3.here hx rfl (hb hby d7_49) ?_
    refine XS.iand X3.here hx rfl (hb hby d7_52) rfl ?_
    show own_S p e below m T3 53 #[lvR o0_, lvI (1 : Int32)] [(.int (x1_ &&& (255 : Int32))), (.int ((x0_ &&& (255 : Int32)) <<< ((0 : Int32) &&& 31)))] _
    refine st5 _ ?_
    show own_S p e below m T5 56 #[lvR o0_, lvI (1 : Int32)] [(.int (8 : Int32)), (.int (x1_ &&& (255 : Int32))), (.int ((x0_ &&& (255 : Int32)) <<< ((0 : Int32) &&& 31)))] _
    refine XS.ishl X5.here hx rfl (hb hby d7_56) rfl ?_
    show own_S p e below m T5 57 #[lvR o0_, lvI (1 : Int32)] [(.int ((x1_ &&& (255 : Int32)) <<< ((8 : Int32) &&& 31))), (.int ((x0_ &&& (255 : Int32)) <<< ((0 : Int32) &&& 31)))] _
    refine XS.ior X5.here hx rfl (hb hby d7_57) rfl ?_
    show own_S p e below m T5 58 #[lvR o0_, lvI (1 : Int32)] [(.int (((x0_ &&& (255 : Int32)) <<< ((0 : Int32) &&& 31)) ||| ((x1_ &&& (255 : Int32)) <<< ((8 : Int32) &&& 31))))] _
    refine XS.i2c X5.here hx rfl (hb hby d7_58) rfl ?_
    exact kt
  obtain ⟨fs, hr, hrun, hended, hW, hsame⟩ := X5.leave (v := some (.int (nar .char ((((x0_ &&& (255 : Int32)) <<< ((0 : Int32) &&& 31)) ||| ((x1_ &&& (255 : Int32)) <<< ((8 : Int32) &&& 31))).toUInt32.toUInt16.toUInt32.toInt32)))) (fun h => by rw [Bd.returns] at h; cases h)
  refine ⟨_, _, hG _ (pre6 _ (retN X5 hx (t := .char) Bd.returns (by simp) (hb hby d7_59) hr)), hrun, hended, _, _, rfl, ?_, ⟨_, rfl⟩, hW, hsame.mono (by decide) (by decide)⟩
  show QgetChar8 Z o0_ ko0_ x0_ x1_ h0 n0 _ T5.heap _
  rw [e5]
  exact ⟨(by rw [own_narc]), N0, rfl⟩
theorem pd_5 : parseMethodDescriptor "([BI)C" = some ⟨[(.array .byte), .int], some .char⟩ := by decide +kernel
theorem d2_35 : decode jdk_52_method_16_code 35 = .ok (.sipush 255, 3) := by decide +kernel
theorem d2_38 : decode jdk_52_method_16_code 38 = .ok (.if_icmp .gt 16, 3) := by decide +kernel
theorem d2_54 : decode jdk_52_method_16_code 54 = .ok (.aload 5, 2) := by decide +kernel
theorem d2_56 : decode jdk_52_method_16_code 56 = .ok (.areturn, 1) := by decide +kernel
theorem d2_57 : decode jdk_52_method_16_code 57 = .ok (.aload_n 3, 1) := by decide +kernel
theorem d2_58 : decode jdk_52_method_16_code 58 = .ok (.areturn, 1) := by decide +kernel
theorem efCq1 (m : MethodId) (sr_ : Addr) : entryFrame m #[(.ref sr_), (.int (0 : Int32)), (.int (1 : Int32))] 6 = mkF m 0 #[lvR sr_, lvI (0 : Int32), lvI (1 : Int32), .unset, .unset, .unset] [] := by first | (simp [entryFrame, mkF, argsToLocals, Value.category]; done) | rfl
def QCq1 (Z : State) (sr_ : Addr) (ks_ : ClassId) (x0_ : Int32) (w_COMPACT_STRINGS : Int32) (h0 : Heap) (n0 : Nat) (v : Option Value) (h : Heap) (L : List Loc) : Prop := ∃ k_w : ClassId, ∃ z_w : Int32, ∃ vs_w : List Value, ∃ nw_ : Addr, v = some (.ref nw_) ∧ Fr n0 L ∧ Keep h0 h [] ∧ h0.size ≤ nw_ ∧ Exa Z h nw_ "[B" ∧ Arv Z h nw_ k_w .byte z_w vs_w (.int (0 : Int32)) ∧ own_two (1 : Int32) z_w
set_option maxRecDepth 65536 in
set_option maxHeartbeats 40000000 in
theorem rmCq1 (l : Launch) (Z : State) (a0 : Array Value) (hw : ∀ d ∈ tables_1, d.before a0 Z = true) (ws : List Jvm.Cond) (sr_ : Addr) (ks_ : ClassId) (x0_ : Int32) (w_COMPACT_STRINGS : Int32) (h0 : Heap) (n0 : Nat) (O0 : Old Z n0 h0) (hc0_ : own_chr x0_) (hz_0 : ¬ (w_COMPACT_STRINGS = (0 : Int32))) (P2 : Arv Z h0 sr_ ks_ .char (1 : Int32) [(.int x0_)] (.int (0 : Int32))) (P3 : Sta Z Z.heap "java/lang/String" "COMPACT_STRINGS" "Z" (.int w_COMPACT_STRINGS)) (P4 : Sta Z Z.heap "java/lang/StringUTF16" "$assertionsDisabled" "Z" (.int (1 : Int32))) (P5 : Sta Z Z.heap "java/lang/StringUTF16" "HI_BYTE_SHIFT" "I" (.int (0 : Int32))) (P6 : Sta Z Z.heap "java/lang/StringUTF16" "LO_BYTE_SHIFT" "I" (.int (8 : Int32))) :
    MetFree l (⟨"java/lang/StringUTF16", "compress", "([CII)[B"⟩ : MethodName) (head1 (Jvm.Cond.code (⟨"java/lang/StringUTF16", "compress", "([CII)[B"⟩ : MethodName) jdk_52_method_16_code 6 (some (.array .byte)) :: ws) ({ frames := 3, cells := 2, slots := 3, locals := 40 } : Room)) (fun a U => a = #[(.ref sr_), (.int (0 : Int32)), (.int (1 : Int32))] ∧ Z.Warmed39 U.vm ∧ U.heap = h0) (fun _ _ _ _ _ => True) (fun _ U o U' => ∃ v L, o = .returned v ∧ QCq1 Z sr_ ks_ x0_ w_COMPACT_STRINGS h0 n0 v U'.heap L ∧ FrameEnd U o U' L ({ frames := 3, cells := 2, slots := 3, locals := 40 } : Room).cells ({ frames := 3, cells := 2, slots := 3, locals := 40 } : Room).slots) := by
  refine MetFree.of_bodySF (plainFor_of_name pn_0) hisR ?_
  intro p e s m args below meth c s₁ Bd hml0 hP hK
  obtain ⟨rfl, hZ, hh⟩ := hP
  have hx := Bd.exec
  have hby := Bd.bytes
  have hml : c.maxLocals = 6 := hml0
  have hown : s.vm.findClass "java/lang/StringUTF16" = some m.cls := findClass_of_methodNamed Bd.named
  have hnm := (name_of_methodNamed Bd.named Bd.method).1
  have X0 : Stand p l e ({ frames := 3, cells := 2, slots := 3, locals := 40 } : Room) s m #[(.ref sr_), (.int (0 : Int32)), (.int (1 : Int32))] below meth c s₁ [] 0 0 := Stand.of_body Bd
  have e0 : s₁.heap = h0 := by rw [← hh, Bd.state]; rfl
  have N0 := Fr.nil n0
  obtain ⟨G, pre0, hG⟩ : ∃ G : State → Prop, (∀ t, own_S p e below m s₁ 0 #[lvR sr_, lvI (0 : Int32), lvI (1 : Int32), .unset, .unset, .unset] [] t → G t) ∧ (∀ t, G t → Steps p.tables e below (s₁.setTop (entryFrame m #[(.ref sr_), (.int (0 : Int32)), (.int (1 : Int32))] 6)) t) := ⟨fun t => Steps p.tables e below (s₁.setTop (entryFrame m #[(.ref sr_), (.int (0 : Int32)), (.int (1 : Int32))] 6)) t, fun t k => castTop (efCq1 m sr_) k, fun _ k => k⟩
  have K0 : Keep h0 h0 [] := Keep.refl _ _
  obtain ⟨T1, h1, k1, X1, e1, E1, A1, Z1, st1⟩ := newPE X0 hx hZ (own_w hw 19 rfl) e0 (g := (mkF m 1 #[lvR sr_, lvI (0 : Int32), lvI (1 : Int32), .unset, .unset, .unset] [(.int (1 : Int32))])) rfl (hb hby d2_1) rfl (by decide) (cap := 1) (by decide) (by decide) (by decide) (by decide) (ad := "[B") (by decide)
  obtain ⟨b1, g1⟩ : ∃ z, z = h0.size := ⟨_, rfl⟩
  rw [← g1] at A1 Z1 st1
  have ge2 : n0 ≤ b1 := Nat.le_trans (Nat.le_trans (Nat.le_of_eq O0.1.symm) O0.2.1) (Nat.le_of_eq g1.symm)
  have sz3 : h0.size ≤ b1 := Nat.le_trans K0.1 (Nat.le_of_eq g1.symm)
  have f4 : Arv Z h1 b1 k1 .byte (1 : Int32) [(.int (0 : Int32))] (.int (0 : Int32)) := (Arv.new A1 (by decide)).pad (pad_rep [] (.int (0 : Int32)) 1)
  have f6 : Arv Z h1 sr_ ks_ .char (1 : Int32) [(.int x0_)] (.int (0 : Int32)) := P2.ext E1
  have f7 : Old Z n0 h1 := O0.ext E1
  obtain ⟨_, _, ⟨T5, L5, k5, n5⟩, -, X5, ⟨Lc5, hQ5, l5, y5, z5⟩, st5⟩ := Jvm.LawKit.callS X1 hx (y := (⟨"java/lang/StringUTF16", "compress", "([CI[BII)I"⟩ : MethodName)) hown (mvT hZ (own_w hw 20 rfl)) (mvT hZ (own_w hw 21 rfl)) (mvT hZ (own_w hw 17 rfl)) (mvT hZ (own_w hw 22 rfl)) (by decide) (backOf (W := 0) (rmCp1 l Z a0 hw [] sr_ ks_ b1 k1 x0_ h1 n0 f7 f6 f4 ge2) hZ (own_w hw 22 rfl) (own_w hw 17 rfl) (by decide) (by decide)) (g := (mkF m 9 #[lvR sr_, lvI (0 : Int32), lvI (1 : Int32), lvR b1, .unset, .unset] [(.int (1 : Int32)), (.int (0 : Int32)), (.ref b1), (.int (0 : Int32)), (.ref sr_)])) rfl (by rw [hml]; rfl) (argsL := [(.ref sr_), (.int (0 : Int32)), (.ref b1), (.int (0 : Int32)), (.int (1 : Int32))]) (rest := []) (lenOf pd_0 rfl) rfl (by show 2 * 0 + _ ≤ _; exact Nat.le_of_eq rfl) (hb hby d2_9) (fun _ _ => ⟨rfl, e1, (by decide : 1 + 0 ≤ _), (by decide : 1 + 0 ≤ _)⟩)
  dsimp only [Pt.U, Pt.locs, Pt.cells, Pt.slots] at X5 l5 y5 z5 st5 hQ5
  subst l5 y5 z5
  obtain ⟨h5, e5⟩ : ∃ z, T5.heap = z := ⟨_, rfl⟩
  rw [e5] at hQ5
  obtain ⟨vs_w_5, rr5, rfl, hs5, N5q, K5, g5_0⟩ := hQ5
  have N8 := Fr.app N0 N5q
  rcases hs5 with ⟨rfl, hq5_0_0⟩ | ⟨rfl, hq5_1_0⟩
  · have ne11 : sr_ ≠ b1 := Nat.ne_of_lt (Nat.lt_of_lt_of_le P2.lt (Nat.le_of_eq g1.symm))
    have f10 : Arv Z h5 sr_ ks_ .char (1 : Int32) [(.int x0_)] (.int (0 : Int32)) := f6.keep K5 (ninS ne11 nin0)
    have f12 : Old Z n0 h5 := f7.keep K5 (allS (ge2) all0)
    obtain ⟨_, _, ⟨T9, L9, k9, n9⟩, -, X9, ⟨Lc9, hQ9, l9, y9, z9⟩, st9⟩ := Jvm.LawKit.callS X5 hx (y := (⟨"java/lang/StringUTF16", "toBytes", "([CII)[B"⟩ : MethodName)) hown (mvT hZ (own_w hw 46 rfl)) (mvT hZ (own_w hw 47 rfl)) (mvT hZ (own_w hw 17 rfl)) (mvT hZ (own_w hw 48 rfl)) (by decide) (backOf (W := 0) (rmtoBytes1 l Z a0 hw [] sr_ ks_ x0_ h5 n0 f12 f10 P4 P5 P6) hZ (own_w hw 48 rfl) (own_w hw 17 rfl) (by decide) (by decide)) (g := (mkF m 23 #[lvR sr_, lvI (0 : Int32), lvI (1 : Int32), lvR b1, lvI (0 : Int32), .unset] [(.int (1 : Int32)), (.int (0 : Int32)), (.ref sr_)])) rfl (by rw [hml]; rfl) (argsL := [(.ref sr_), (.int (0 : Int32)), (.int (1 : Int32))]) (rest := []) (lenOf pd_4 rfl) rfl (by show 2 * 0 + _ ≤ _; exact Nat.le_of_eq rfl) (hb hby d2_23) (fun _ _ => ⟨rfl, e5, (by decide : 1 + 1 ≤ _), (by decide : 1 + 2 ≤ _)⟩)
    dsimp only [Pt.U, Pt.locs, Pt.cells, Pt.slots] at X9 l9 y9 z9 st9 hQ9
    subst l9 y9 z9
    obtain ⟨h9, e9⟩ : ∃ z, T9.heap = z := ⟨_, rfl⟩
    rw [e9] at hQ9
    obtain ⟨k3_1_9, nnb3_1_9, rfl, N9q, K9, sznnb3_1_9, g9_0, g9_1⟩ := hQ9
    have N13 := Fr.app N8 N9q
    have ge14 : n0 ≤ nnb3_1_9 := Nat.le_trans (Nat.le_trans (Nat.le_of_eq f12.1.symm) f12.2.1) sznnb3_1_9
    have f15 : Keep h0 h1 [] := K0.ext E1
    have f16 : Keep h0 h5 [] := f15.trans K5 (allS (Or.inr sz3) all0)
    have sz17 : h0.size ≤ nnb3_1_9 := Nat.le_trans f16.1 sznnb3_1_9
    have f19 : Old Z n0 h9 := f12.keep K9 all0
    obtain ⟨_, _, ⟨T18, L18, k18, n18⟩, -, X18, ⟨Lc18, hQ18, l18, y18, z18⟩, st18⟩ := Jvm.LawKit.callS X9 hx (y := (⟨"java/lang/StringUTF16", "getChar", "([BI)C"⟩ : MethodName)) hown (mvT hZ (own_w hw 62 rfl)) (mvT hZ (own_w hw 63 rfl)) (mvT hZ (own_w hw 17 rfl)) (mvT hZ (own_w hw 64 rfl)) (by decide) (backOf (W := 0) (rmgetChar8 l Z a0 hw [] nnb3_1_9 k3_1_9 ((x0_ >>> ((0 : Int32) &&& 31)).toInt8.toInt32) ((x0_ >>> ((8 : Int32) &&& 31)).toInt8.toInt32) h9 n0 f19 g9_0 g9_1 P4 P5 P6) hZ (own_w hw 64 rfl) (own_w hw 17 rfl) (by decide) (by decide)) (g := (mkF m 32 #[lvR sr_, lvI (0 : Int32), lvI (1 : Int32), lvR b1, lvI (0 : Int32), lvR nnb3_1_9] [(.int (0 : Int32)), (.ref nnb3_1_9)])) rfl (by rw [hml]; rfl) (argsL := [(.ref nnb3_1_9), (.int (0 : Int32))]) (rest := []) (lenOf pd_5 rfl) rfl (by show 2 * 0 + _ ≤ _; exact Nat.le_of_eq rfl) (hb hby d2_32) (fun _ _ => ⟨rfl, e9, (by decide : 2 + 0 ≤ _), (by decide : 3 + 0 ≤ _)⟩)
    dsimp only [Pt.U, Pt.locs, Pt.cells, Pt.slots] at X18 l18 y18 z18 st18 hQ18
    subst l18 y18 z18
    obtain ⟨h18, e18⟩ : ∃ z, T18.heap = z := ⟨_, rfl⟩
    rw [e18] at hQ18
    obtain ⟨rfl, N18q, hh18⟩ := hQ18
    have N20 := Fr.app N13 N18q
    have e18' : T18.heap = h9 := e18.trans hh18
    have hn21 : (255 : Int32) < ((((((x0_ >>> ((0 : Int32) &&& 31)).toInt8.toInt32) &&& (255 : Int32)) <<< ((0 : Int32) &&& 31)) ||| ((((x0_ >>> ((8 : Int32) &&& 31)).toInt8.toInt32) &&& (255 : Int32)) <<< ((8 : Int32) &&& 31))).toUInt32.toUInt16.toUInt32.toInt32) := own_getc hc0_ hq5_0_0
    have pre22 : ∀ t, own_S p e below m T18 56 #[lvR sr_, lvI (0 : Int32), lvI (1 : Int32), lvR b1, lvI (0 : Int32), lvR nnb3_1_9] [(.ref nnb3_1_9)] t → G t := by
      intro t kt
      refine pre0 t ?_
      show own_S p e below m s₁ 0 #[lvR sr_, lvI (0 : Int32), lvI (1 : Int32), .unset, .unset, .unset] [] _
      refine XS.iloadN X0.here hx rfl (hb hby d2_0) rfl ?_
      show own_S p e below m s₁ 1 #[lvR sr_, lvI (0 : Int32), lvI (1 : Int32), .unset, .unset, .unset] [(.int (1 : Int32))] _
      refine st1 _ ?_
      refine XS.astoreN X1.here hx rfl (hb hby d2_3) rfl rfl (l' := #[lvR sr_, lvI (0 : Int32), lvI (1 : Int32), lvR b1, .unset, .unset]) rfl ?_
      refine XS.aloadN X1.here hx rfl (hb hby d2_4) rfl rfl ?_
      refine XS.iloadN X1.here hx rfl (hb hby d2_5) rfl ?_
      refine XS.aloadN X1.here hx rfl (hb hby d2_6) rfl rfl ?_
      refine XS.iconst X1.here hx rfl (hb hby d2_7) ?_
      show own_S p e below m T1 8 #[lvR sr_, lvI (0 : Int32), lvI (1 : Int32), lvR b1, .unset, .unset] [(.int (0 : Int32)), (.ref b1), (.int (0 : Int32)), (.ref sr_)] _
      refine XS.iloadN X1.here hx rfl (hb hby d2_8) rfl ?_
      show own_S p e below m T1 9 #[lvR sr_, lvI (0 : Int32), lvI (1 : Int32), lvR b1, .unset, .unset] [(.int (1 : Int32)), (.int (0 : Int32)), (.ref b1), (.int (0 : Int32)), (.ref sr_)] _
      refine st5 _ ?_
      refine XS.istore X5.here hx rfl (hb hby d2_12) rfl (l' := #[lvR sr_, lvI (0 : Int32), lvI (1 : Int32), lvR b1, lvI (0 : Int32), .unset]) rfl ?_
      refine XS.iload X5.here hx rfl (hb hby d2_14) rfl ?_
      refine XS.iloadN X5.here hx rfl (hb hby d2_16) rfl ?_
      show own_S p e below m T5 17 #[lvR sr_, lvI (0 : Int32), lvI (1 : Int32), lvR b1, lvI (0 : Int32), .unset] [(.int (1 : Int32)), (.int (0 : Int32))] _
      refine XS.icmpNo X5.here hx rfl (hb hby d2_17) rfl (feq (by decide : ¬ ((0 : Int32) = (1 : Int32)))).1 ?_
      refine XS.aloadN X5.here hx rfl (hb hby d2_20) rfl rfl ?_
      refine XS.iloadN X5.here hx rfl (hb hby d2_21) rfl ?_
      refine XS.iloadN X5.here hx rfl (hb hby d2_22) rfl ?_
      show own_S p e below m T5 23 #[lvR sr_, lvI (0 : Int32), lvI (1 : Int32), lvR b1, lvI (0 : Int32), .unset] [(.int (1 : Int32)), (.int (0 : Int32)), (.ref sr_)] _
      refine st9 _ ?_
      refine XS.astore X9.here hx rfl (hb hby d2_26) rfl rfl (l' := #[lvR sr_, lvI (0 : Int32), lvI (1 : Int32), lvR b1, lvI (0 : Int32), lvR nnb3_1_9]) rfl ?_
      refine XS.aload X9.here hx rfl (hb hby d2_28) rfl rfl ?_
      refine XS.iload X9.here hx rfl (hb hby d2_30) rfl ?_
      show own_S p e below m T9 32 #[lvR sr_, lvI (0 : Int32), lvI (1 : Int32), lvR b1, lvI (0 : Int32), lvR nnb3_1_9] [(.int (0 : Int32)), (.ref nnb3_1_9)] _
      refine st18 _ ?_
      refine XS.sipush X18.here hx rfl (hb hby d2_35) ?_
      show own_S p e below m T18 38 #[lvR sr_, lvI (0 : Int32), lvI (1 : Int32), lvR b1, lvI (0 : Int32), lvR nnb3_1_9] [(.int (255 : Int32)), (.int ((((((x0_ >>> ((0 : Int32) &&& 31)).toInt8.toInt32) &&& (255 : Int32)) <<< ((0 : Int32) &&& 31)) ||| ((((x0_ >>> ((8 : Int32) &&& 31)).toInt8.toInt32) &&& (255 : Int32)) <<< ((8 : Int32) &&& 31))).toUInt32.toUInt16.toUInt32.toInt32))] _
      refine XS.icmpYes X18.here hx rfl (pc0 := 38) (pc' := 54) rfl (hb hby d2_38) rfl (tlt hn21).2.2.1 (by decide) (by decide) ?_
      refine XS.aload X18.here hx rfl (hb hby d2_54) rfl rfl ?_
      exact kt
    have f24 : Keep h0 h9 [] := f16.trans K9 all0
    obtain ⟨fs, hr, hrun, hended, hW, hsame⟩ := X18.leave (v := some (.ref nnb3_1_9)) (fun h => by rw [Bd.returns] at h; cases h)
    refine ⟨_, _, hG _ (pre22 _ (retOut X18 hx Bd.returns rfl (Or.inr (Or.inr (Or.inr (Or.inr ⟨rfl, rfl, rfl⟩)))) (hb hby d2_56) hr)), hrun, hended, _, _, rfl, ?_, ⟨_, rfl⟩, hW, hsame.mono (by decide) (by decide)⟩
    show QCq1 Z sr_ ks_ x0_ w_COMPACT_STRINGS h0 n0 _ T18.heap _
    rw [e18']
    exact ⟨k3_1_9, (2 : Int32), [(.int ((x0_ >>> ((0 : Int32) &&& 31)).toInt8.toInt32)), (.int ((x0_ >>> ((8 : Int32) &&& 31)).toInt8.toInt32))], nnb3_1_9, rfl, N20, f24, sz17, g9_1, g9_0, (Or.inr (by decide))⟩
  · have pre25 : ∀ t, own_S p e below m T5 58 #[lvR sr_, lvI (0 : Int32), lvI (1 : Int32), lvR b1, lvI (1 : Int32), .unset] [(.ref b1)] t → G t := by
      intro t kt
      refine pre0 t ?_
      show own_S p e below m s₁ 0 #[lvR sr_, lvI (0 : Int32), lvI (1 : Int32), .unset, .unset, .unset] [] _
      refine XS.iloadN X0.here hx rfl (hb hby d2_0) rfl ?_
      show own_S p e below m s₁ 1 #[lvR sr_, lvI (0 : Int32), lvI (1 : Int32), .unset, .unset, .unset] [(.int (1 : Int32))] _
      refine st1 _ ?_
      refine XS.astoreN X1.here hx rfl (hb hby d2_3) rfl rfl (l' := #[lvR sr_, lvI (0 : Int32), lvI (1 : Int32), lvR b1, .unset, .unset]) rfl ?_
      refine XS.aloadN X1.here hx rfl (hb hby d2_4) rfl rfl ?_
      refine XS.iloadN X1.here hx rfl (hb hby d2_5) rfl ?_
      refine XS.aloadN X1.here hx rfl (hb hby d2_6) rfl rfl ?_
      refine XS.iconst X1.here hx rfl (hb hby d2_7) ?_
      show own_S p e below m T1 8 #[lvR sr_, lvI (0 : Int32), lvI (1 : Int32), lvR b1, .unset, .unset] [(.int (0 : Int32)), (.ref b1), (.int (0 : Int32)), (.ref sr_)] _
      refine XS.iloadN X1.here hx rfl (hb hby d2_8) rfl ?_
      show own_S p e below m T1 9 #[lvR sr_, lvI (0 : Int32), lvI (1 : Int32), lvR b1, .unset, .unset] [(.int (1 : Int32)), (.int (0 : Int32)), (.ref b1), (.int (0 : Int32)), (.ref sr_)] _
      refine st5 _ ?_
      refine XS.istore X5.here hx rfl (hb hby d2_12) rfl (l' := #[lvR sr_, lvI (0 : Int32), lvI (1 : Int32), lvR b1, lvI (1 : Int32), .unset]) rfl ?_
      refine XS.iload X5.here hx rfl (hb hby d2_14) rfl ?_
      refine XS.iloadN X5.here hx rfl (hb hby d2_16) rfl ?_
      show own_S p e below m T5 17 #[lvR sr_, lvI (0 : Int32), lvI (1 : Int32), lvR b1, lvI (1 : Int32), .unset] [(.int (1 : Int32)), (.int (1 : Int32))] _
      refine XS.icmpYes X5.here hx rfl (pc0 := 17) (pc' := 57) rfl (hb hby d2_17) rfl (teq (by decide : (1 : Int32) = (1 : Int32))).1 (by decide) (by decide) ?_
      refine XS.aloadN X5.here hx rfl (hb hby d2_57) rfl rfl ?_
      exact kt
    have f27 : Exa Z h5 b1 "[B" := Z1.keep K5
    have f28 : Keep h0 h1 [] := K0.ext E1
    have f29 : Keep h0 h5 [] := f28.trans K5 (allS (Or.inr sz3) all0)
    obtain ⟨fs, hr, hrun, hended, hW, hsame⟩ := X5.leave (v := some (.ref b1)) (fun h => by rw [Bd.returns] at h; cases h)
    refine ⟨_, _, hG _ (pre25 _ (retOut X5 hx Bd.returns rfl (Or.inr (Or.inr (Or.inr (Or.inr ⟨rfl, rfl, rfl⟩)))) (hb hby d2_58) hr)), hrun, hended, _, _, rfl, ?_, ⟨_, rfl⟩, hW, hsame.mono (by decide) (by decide)⟩
    show QCq1 Z sr_ ks_ x0_ w_COMPACT_STRINGS h0 n0 _ T5.heap _
    rw [e5]
    exact ⟨k1, (1 : Int32), vs_w_5, b1, rfl, N8, f29, sz3, f27, g5_0, (Or.inl rfl)⟩
theorem d8_0 : decode jdk_42_method_149_code 0 = .ok (.aload_n 0, 1) := by decide +kernel
theorem d8_1 : decode jdk_42_method_149_code 1 = .ok (.invokespecial 1, 3) := by decide +kernel
theorem d8_4 : decode jdk_42_method_149_code 4 = .ok (.iload_n 3, 1) := by decide +kernel
theorem d8_5 : decode jdk_42_method_149_code 5 = .ok (.ifCond .ne 22, 3) := by decide +kernel
theorem d8_27 : decode jdk_42_method_149_code 27 = .ok (.getstatic 38, 3) := by decide +kernel
theorem d8_30 : decode jdk_42_method_149_code 30 = .ok (.ifCond .eq 28, 3) := by decide +kernel
theorem d8_33 : decode jdk_42_method_149_code 33 = .ok (.aload_n 1, 1) := by decide +kernel
theorem d8_34 : decode jdk_42_method_149_code 34 = .ok (.iload_n 2, 1) := by decide +kernel
theorem d8_35 : decode jdk_42_method_149_code 35 = .ok (.iload_n 3, 1) := by decide +kernel
theorem d8_36 : decode jdk_42_method_149_code 36 = .ok (.invokestatic 177, 3) := by decide +kernel
theorem d8_39 : decode jdk_42_method_149_code 39 = .ok (.astore 5, 2) := by decide +kernel
theorem d8_41 : decode jdk_42_method_149_code 41 = .ok (.aload_n 0, 1) := by decide +kernel
theorem d8_42 : decode jdk_42_method_149_code 42 = .ok (.aload 5, 2) := by decide +kernel
theorem d8_44 : decode jdk_42_method_149_code 44 = .ok (.iload_n 3, 1) := by decide +kernel
theorem d8_45 : decode jdk_42_method_149_code 45 = .ok (.invokestatic 47, 3) := by decide +kernel
theorem d9_0 : decode jdk_52_method_15_code 0 = .ok (.iload_n 1, 1) := by decide +kernel
theorem d9_1 : decode jdk_52_method_15_code 1 = .ok (.aload_n 0, 1) := by decide +kernel
theorem d9_2 : decode jdk_52_method_15_code 2 = .ok (.arraylength, 1) := by decide +kernel
theorem d9_3 : decode jdk_52_method_15_code 3 = .ok (.isub, 1) := by decide +kernel
theorem d9_4 : decode jdk_52_method_15_code 4 = .ok (.bipush 31, 2) := by decide +kernel
theorem d9_6 : decode jdk_52_method_15_code 6 = .ok (.iushr, 1) := by decide +kernel
theorem d9_7 : decode jdk_52_method_15_code 7 = .ok (.i2b, 1) := by decide +kernel
theorem d9_8 : decode jdk_52_method_15_code 8 = .ok (.ireturn, 1) := by decide +kernel
theorem efcoderFromArrayLen9 (m : MethodId) (o0_ : Addr) : entryFrame m #[(.ref o0_), (.int (1 : Int32))] 2 = mkF m 0 #[lvR o0_, lvI (1 : Int32)] [] := by first | (simp [entryFrame, mkF, argsToLocals, Value.category]; done) | rfl
def QcoderFromArrayLen9 (Z : State) (o0_ : Addr) (ko0_ : ClassId) (lo0_ : List Value) (h0 : Heap) (n0 : Nat) (v : Option Value) (h : Heap) (L : List Loc) : Prop := v = some (.int (0 : Int32)) ∧ Fr n0 L ∧ h = h0
set_option maxRecDepth 65536 in
set_option maxHeartbeats 40000000 in
theorem rmcoderFromArrayLen9 (l : Launch) (Z : State) (a0 : Array Value) (hw : ∀ d ∈ tables_1, d.before a0 Z = true) (ws : List Jvm.Cond) (o0_ : Addr) (ko0_ : ClassId) (lo0_ : List Value) (h0 : Heap) (n0 : Nat) (O0 : Old Z n0 h0) (P0 : Exa Z h0 o0_ "[B") (P1 : Arv Z h0 o0_ ko0_ .byte (1 : Int32) lo0_ (.int (0 : Int32))) :
    MetFree l (⟨"java/lang/StringUTF16", "coderFromArrayLen", "([BI)B"⟩ : MethodName) (head1 (Jvm.Cond.code (⟨"java/lang/StringUTF16", "coderFromArrayLen", "([BI)B"⟩ : MethodName) jdk_52_method_15_code 2 (some .byte) :: ws) ({ frames := 0, cells := 0, slots := 0, locals := 0 } : Room)) (fun a U => a = #[(.ref o0_), (.int (1 : Int32))] ∧ Z.Warmed39 U.vm ∧ U.heap = h0) (fun _ _ _ _ _ => True) (fun _ U o U' => ∃ v L, o = .returned v ∧ QcoderFromArrayLen9 Z o0_ ko0_ lo0_ h0 n0 v U'.heap L ∧ FrameEnd U o U' L ({ frames := 0, cells := 0, slots := 0, locals := 0 } : Room).cells ({ frames := 0, cells := 0, slots := 0, locals := 0 } : Room).slots) := by
  refine MetFree.of_bodySF (plainFor_of_name pn_0) hisR ?_
  intro p e s m args below meth c s₁ Bd hml0 hP hK
  obtain ⟨rfl, hZ, hh⟩ := hP
  have hx := Bd.exec
  have hby := Bd.bytes
  have hml : c.maxLocals = 2 := hml0
  have hown : s.vm.findClass "java/lang/StringUTF16" = some m.cls := findClass_of_methodNamed Bd.named
  have hnm := (name_of_methodNamed Bd.named Bd.method).1
  have X0 : Stand p l e ({ frames := 0, cells := 0, slots := 0, locals := 0 } : Room) s m #[(.ref o0_), (.int (1 : Int32))] below meth c s₁ [] 0 0 := Stand.of_body Bd
  have e0 : s₁.heap = h0 := by rw [← hh, Bd.state]; rfl
  have N0 := Fr.nil n0
  obtain ⟨G, pre0, hG⟩ : ∃ G : State → Prop, (∀ t, own_S p e below m s₁ 0 #[lvR o0_, lvI (1 : Int32)] [] t → G t) ∧ (∀ t, G t → Steps p.tables e below (s₁.setTop (entryFrame m #[(.ref o0_), (.int (1 : Int32))] 2)) t) := ⟨fun t => Steps p.tables e below (s₁.setTop (entryFrame m #[(.ref o0_), (.int (1 : Int32))] 2)) t, fun t k => castTop (efcoderFromArrayLen9 m o0_) k, fun _ k => k⟩
  have K0 : Keep h0 h0 [] := Keep.refl _ _
  obtain ⟨c1, r1, q1, s1, z1, y1, G1⟩ := id P1
  have pre2 : ∀ t, own_S p e below m s₁ 8 #[lvR o0_, lvI (1 : Int32)] [(.int (0 : Int32))] t → G t := by
    intro t kt
    refine pre0 t ?_
    show own_S p e below m s₁ 0 #[lvR o0_, lvI (1 : Int32)] [] _
    refine XS.iloadN X0.here hx rfl (hb hby d9_0) rfl ?_
    refine XS.aloadN X0.here hx rfl (hb hby d9_1) rfl rfl ?_
    show own_S p e below m s₁ 2 #[lvR o0_, lvI (1 : Int32)] [(.ref o0_), (.int (1 : Int32))] _
    refine X0.arraylength hx (by rw [e0]; exact r1.1) (State.isArrayOf_alike hZ.alike r1.2.1) (g := (mkF m 2 #[lvR o0_, lvI (1 : Int32)] [(.ref o0_), (.int (1 : Int32))])) rfl rfl (hb hby d9_2) _ ?_
    rw [len_of s1 z1]
    refine XS.isub X0.here hx rfl (hb hby d9_3) rfl ?_
    refine XS.bipush X0.here hx rfl (hb hby d9_4) ?_
    show own_S p e below m s₁ 6 #[lvR o0_, lvI (1 : Int32)] [(.int (31 : Int32)), (.int (0 : Int32))] _
    refine XS.iushr X0.here hx rfl (hb hby d9_6) rfl ?_
    show own_S p e below m s₁ 7 #[lvR o0_, lvI (1 : Int32)] [(.int (0 : Int32))] _
    refine XS.i2b X0.here hx rfl (hb hby d9_7) rfl ?_
    exact kt
  obtain ⟨fs, hr, hrun, hended, hW, hsame⟩ := X0.leave (v := some (.int (0 : Int32))) (fun h => by rw [Bd.returns] at h; cases h)
  refine ⟨_, _, hG _ (pre2 _ (retN X0 hx (t := .byte) Bd.returns (by simp) (hb hby d9_8) hr)), hrun, hended, _, _, rfl, ?_, ⟨_, rfl⟩, hW, hsame.mono (by decide) (by decide)⟩
  show QcoderFromArrayLen9 Z o0_ ko0_ lo0_ h0 n0 _ s₁.heap _
  rw [e0]
  exact ⟨rfl, N0, rfl⟩
theorem pd_6 : parseMethodDescriptor "([BI)B" = some ⟨[(.array .byte), .int], some .byte⟩ := by decide +kernel
theorem d8_48 : decode jdk_42_method_149_code 48 = .ok (.putfield 15, 3) := by decide +kernel
theorem d8_51 : decode jdk_42_method_149_code 51 = .ok (.aload_n 0, 1) := by decide +kernel
theorem d8_52 : decode jdk_42_method_149_code 52 = .ok (.aload 5, 2) := by decide +kernel
theorem d8_54 : decode jdk_42_method_149_code 54 = .ok (.putfield 9, 3) := by decide +kernel
theorem d8_57 : decode jdk_42_method_149_code 57 = .ok (.return_, 1) := by decide +kernel
theorem efcoderFromArrayLen10 (m : MethodId) (o0_ : Addr) : entryFrame m #[(.ref o0_), (.int (1 : Int32))] 2 = mkF m 0 #[lvR o0_, lvI (1 : Int32)] [] := by first | (simp [entryFrame, mkF, argsToLocals, Value.category]; done) | rfl
def QcoderFromArrayLen10 (Z : State) (o0_ : Addr) (ko0_ : ClassId) (lo0_ : List Value) (h0 : Heap) (n0 : Nat) (v : Option Value) (h : Heap) (L : List Loc) : Prop := v = some (.int (1 : Int32)) ∧ Fr n0 L ∧ h = h0
set_option maxRecDepth 65536 in
set_option maxHeartbeats 40000000 in
theorem rmcoderFromArrayLen10 (l : Launch) (Z : State) (a0 : Array Value) (hw : ∀ d ∈ tables_1, d.before a0 Z = true) (ws : List Jvm.Cond) (o0_ : Addr) (ko0_ : ClassId) (lo0_ : List Value) (h0 : Heap) (n0 : Nat) (O0 : Old Z n0 h0) (P0 : Exa Z h0 o0_ "[B") (P1 : Arv Z h0 o0_ ko0_ .byte (2 : Int32) lo0_ (.int (0 : Int32))) :
    MetFree l (⟨"java/lang/StringUTF16", "coderFromArrayLen", "([BI)B"⟩ : MethodName) (head1 (Jvm.Cond.code (⟨"java/lang/StringUTF16", "coderFromArrayLen", "([BI)B"⟩ : MethodName) jdk_52_method_15_code 2 (some .byte) :: ws) ({ frames := 0, cells := 0, slots := 0, locals := 0 } : Room)) (fun a U => a = #[(.ref o0_), (.int (1 : Int32))] ∧ Z.Warmed39 U.vm ∧ U.heap = h0) (fun _ _ _ _ _ => True) (fun _ U o U' => ∃ v L, o = .returned v ∧ QcoderFromArrayLen10 Z o0_ ko0_ lo0_ h0 n0 v U'.heap L ∧ FrameEnd U o U' L ({ frames := 0, cells := 0, slots := 0, locals := 0 } : Room).cells ({ frames := 0, cells := 0, slots := 0, locals := 0 } : Room).slots) := by
  refine MetFree.of_bodySF (plainFor_of_name pn_0) hisR ?_
  intro p e s m args below meth c s₁ Bd hml0 hP hK
  obtain ⟨rfl, hZ, hh⟩ := hP
  have hx := Bd.exec
  have hby := Bd.bytes
  have hml : c.maxLocals = 2 := hml0
  have hown : s.vm.findClass "java/lang/StringUTF16" = some m.cls := findClass_of_methodNamed Bd.named
  have hnm := (name_of_methodNamed Bd.named Bd.method).1
  have X0 : Stand p l e ({ frames := 0, cells := 0, slots := 0, locals := 0 } : Room) s m #[(.ref o0_), (.int (1 : Int32))] below meth c s₁ [] 0 0 := Stand.of_body Bd
  have e0 : s₁.heap = h0 := by rw [← hh, Bd.state]; rfl
  have N0 := Fr.nil n0
  obtain ⟨G, pre0, hG⟩ : ∃ G : State → Prop, (∀ t, own_S p e below m s₁ 0 #[lvR o0_, lvI (1 : Int32)] [] t → G t) ∧ (∀ t, G t → Steps p.tables e below (s₁.setTop (entryFrame m #[(.ref o0_), (.int (1 : Int32))] 2)) t) := ⟨fun t => Steps p.tables e below (s₁.setTop (entryFrame m #[(.ref o0_), (.int (1 : Int32))] 2)) t, fun t k => castTop (efcoderFromArrayLen10 m o0_) k, fun _ k => k⟩
  have K0 : Keep h0 h0 [] := Keep.refl _ _
  obtain ⟨c1, r1, q1, s1, z1, y1, G1⟩ := id P1
  have pre2 : ∀ t, own_S p e below m s₁ 8 #[lvR o0_, lvI (1 : Int32)] [(.int (1 : Int32))] t → G t := by
    intro t kt
    refine pre0 t ?_
    show own_S p e below m s₁ 0 #[lvR o0_, lvI (1 : Int32)] [] _
    refine XS.iloadN X0.here hx rfl (hb hby d9_0) rfl ?_
    refine XS.aloadN X0.here hx rfl (hb hby d9_1) rfl rfl ?_
    show own_S p e below m s₁ 2 #[lvR o0_, lvI (1 : Int32)] [(.ref o0_), (.int (1 : Int32))] _
    refine X0.arraylength hx (by rw [e0]; exact r1.1) (State.isArrayOf_alike hZ.alike r1.2.1) (g := (mkF m 2 #[lvR o0_, lvI (1 : Int32)] [(.ref o0_), (.int (1 : Int32))])) rfl rfl (hb hby d9_2) _ ?_
    rw [len_of s1 z1]
    refine XS.isub X0.here hx rfl (hb hby d9_3) rfl ?_
    refine XS.bipush X0.here hx rfl (hb hby d9_4) ?_
    show own_S p e below m s₁ 6 #[lvR o0_, lvI (1 : Int32)] [(.int (31 : Int32)), (.int (-1 : Int32))] _
    refine XS.iushr X0.here hx rfl (hb hby d9_6) rfl ?_
    show own_S p e below m s₁ 7 #[lvR o0_, lvI (1 : Int32)] [(.int (1 : Int32))] _
    refine XS.i2b X0.here hx rfl (hb hby d9_7) rfl ?_
    exact kt
  obtain ⟨fs, hr, hrun, hended, hW, hsame⟩ := X0.leave (v := some (.int (1 : Int32))) (fun h => by rw [Bd.returns] at h; cases h)
  refine ⟨_, _, hG _ (pre2 _ (retN X0 hx (t := .byte) Bd.returns (by simp) (hb hby d9_8) hr)), hrun, hended, _, _, rfl, ?_, ⟨_, rfl⟩, hW, hsame.mono (by decide) (by decide)⟩
  show QcoderFromArrayLen10 Z o0_ ko0_ lo0_ h0 n0 _ s₁.heap _
  rw [e0]
  exact ⟨rfl, N0, rfl⟩
theorem pn_1 : plainName "java/lang/String" = true := by first | (simp [plainName, overriddenIn]; done) | decide +kernel
theorem efIa1 (m : MethodId) (o_ : Addr) (sr_ : Addr) : entryFrame m #[(.ref o_), (.ref sr_), (.int (0 : Int32)), (.int (1 : Int32)), .null] 6 = mkF m 0 #[lvR o_, lvR sr_, lvI (0 : Int32), lvI (1 : Int32), .val .null, .unset] [] := by first | (simp [entryFrame, mkF, argsToLocals, Value.category]; done) | rfl
def QIa1 (Z : State) (o_ : Addr) (sr_ : Addr) (ks_ : ClassId) (x0_ : Int32) (u_coder_o_ : Int32) (u_value_o_ : Value) (w_COMPACT_STRINGS : Int32) (h0 : Heap) (n0 : Nat) (v : Option Value) (h : Heap) (L : List Loc) : Prop := ∃ k_w : ClassId, ∃ z_w : Int32, ∃ vs_w : List Value, ∃ nw_ : Addr, v = none ∧ Fr n0 L ∧ Keep h0 h [o_] ∧ h0.size ≤ nw_ ∧ Fld Z h o_ "java/lang/String" "value" "[B" (.ref nw_) ∧ Exa Z h nw_ "[B" ∧ Arv Z h nw_ k_w .byte z_w vs_w (.int (0 : Int32)) ∧ ¬ (z_w = (0 : Int32))
set_option maxRecDepth 65536 in
set_option maxHeartbeats 40000000 in
theorem rmIa1 (l : Launch) (Z : State) (a0 : Array Value) (hw : ∀ d ∈ tables_1, d.before a0 Z = true) (ws : List Jvm.Cond) (o_ : Addr) (sr_ : Addr) (ks_ : ClassId) (x0_ : Int32) (u_coder_o_ : Int32) (u_value_o_ : Value) (w_COMPACT_STRINGS : Int32) (h0 : Heap) (n0 : Nat) (O0 : Old Z n0 h0) (hc0_ : own_chr x0_) (hz_0 : ¬ (w_COMPACT_STRINGS = (0 : Int32))) (P2 : Exa Z h0 o_ "java/lang/String") (P3 : Fld Z h0 o_ "java/lang/String" "coder" "B" (.int u_coder_o_)) (P4 : Fld Z h0 o_ "java/lang/String" "value" "[B" u_value_o_) (P5 : Arv Z h0 sr_ ks_ .char (1 : Int32) [(.int x0_)] (.int (0 : Int32))) (P6 : Sta Z Z.heap "java/lang/String" "COMPACT_STRINGS" "Z" (.int w_COMPACT_STRINGS)) (P7 : Sta Z Z.heap "java/lang/StringUTF16" "$assertionsDisabled" "Z" (.int (1 : Int32))) (P8 : Sta Z Z.heap "java/lang/StringUTF16" "HI_BYTE_SHIFT" "I" (.int (0 : Int32))) (P9 : Sta Z Z.heap "java/lang/StringUTF16" "LO_BYTE_SHIFT" "I" (.int (8 : Int32))) (P10 : n0 ≤ o_) :
    MetFree l (⟨"java/lang/String", "<init>", "([CIILjava/lang/Void;)V"⟩ : MethodName) (head1 (Jvm.Cond.code (⟨"java/lang/String", "<init>", "([CIILjava/lang/Void;)V"⟩ : MethodName) jdk_42_method_149_code 6 none :: ws) ({ frames := 4, cells := 2, slots := 3, locals := 57 } : Room)) (fun a U => a = #[(.ref o_), (.ref sr_), (.int (0 : Int32)), (.int (1 : Int32)), .null] ∧ Z.Warmed39 U.vm ∧ U.heap = h0) (fun _ _ _ _ _ => True) (fun _ U o U' => ∃ v L, o = .returned v ∧ QIa1 Z o_ sr_ ks_ x0_ u_coder_o_ u_value_o_ w_COMPACT_STRINGS h0 n0 v U'.heap L ∧ FrameEnd U o U' L ({ frames := 4, cells := 2, slots := 3, locals := 57 } : Room).cells ({ frames := 4, cells := 2, slots := 3, locals := 57 } : Room).slots) := by
  refine MetFree.of_bodySF (plainFor_of_name pn_1) hisR ?_
  intro p e s m args below meth c s₁ Bd hml0 hP hK
  obtain ⟨rfl, hZ, hh⟩ := hP
  have hx := Bd.exec
  have hby := Bd.bytes
  have hml : c.maxLocals = 6 := hml0
  have hown : s.vm.findClass "java/lang/String" = some m.cls := findClass_of_methodNamed Bd.named
  have hnm := (name_of_methodNamed Bd.named Bd.method).1
  have X0 : Stand p l e ({ frames := 4, cells := 2, slots := 3, locals := 57 } : Room) s m #[(.ref o_), (.ref sr_), (.int (0 : Int32)), (.int (1 : Int32)), .null] below meth c s₁ [] 0 0 := Stand.of_body Bd
  have e0 : s₁.heap = h0 := by rw [← hh, Bd.state]; rfl
  have N0 := Fr.nil n0
  obtain ⟨G, pre0, hG⟩ : ∃ G : State → Prop, (∀ t, own_S p e below m s₁ 0 #[lvR o_, lvR sr_, lvI (0 : Int32), lvI (1 : Int32), .val .null, .unset] [] t → G t) ∧ (∀ t, G t → Steps p.tables e below (s₁.setTop (entryFrame m #[(.ref o_), (.ref sr_), (.int (0 : Int32)), (.int (1 : Int32)), .null] 6)) t) := ⟨fun t => Steps p.tables e below (s₁.setTop (entryFrame m #[(.ref o_), (.ref sr_), (.int (0 : Int32)), (.int (1 : Int32)), .null] 6)) t, fun t k => castTop (efIa1 m o_ sr_) k, fun _ k => k⟩
  have K0 : Keep h0 h0 [o_] := Keep.refl _ _
  obtain ⟨T1, X1, e1, st1⟩ := initO X0 hx hZ hown (own_w hw 11 rfl) (own_w hw 12 rfl) (own_w hw 13 rfl) e0 (g := (mkF m 1 #[lvR o_, lvR sr_, lvI (0 : Int32), lvI (1 : Int32), .val .null, .unset] [(.ref o_)])) rfl (by rw [hml]; rfl) rfl (hb hby d8_1) (by decide) (W := 0) (by show 2 * 0 + _ ≤ _; exact Nat.le_of_eq rfl) (by decide)
  obtain ⟨T2, X2, e2, st2⟩ := getS2 X1 hx hZ hown (host := "") (Or.inl (own_w hw 14 rfl)) Via.refl e1 (P6.ext O0.2) (g := (mkF m 27 #[lvR o_, lvR sr_, lvI (0 : Int32), lvI (1 : Int32), .val .null, .unset] [])) rfl (hb hby d8_27)
  obtain ⟨_, _, ⟨T3, L3, k3, n3⟩, -, X3, ⟨Lc3, hQ3, l3, y3, z3⟩, st3⟩ := Jvm.LawKit.callS X2 hx (y := (⟨"java/lang/StringUTF16", "compress", "([CII)[B"⟩ : MethodName)) hown (mvT hZ (own_w hw 15 rfl)) (mvT hZ (own_w hw 16 rfl)) (mvT hZ (own_w hw 17 rfl)) (mvT hZ (own_w hw 18 rfl)) (by decide) (backOf (W := 0) (rmCq1 l Z a0 hw [] sr_ ks_ x0_ w_COMPACT_STRINGS h0 n0 O0 hc0_ hz_0 P5 P6 P7 P8 P9) hZ (own_w hw 18 rfl) (own_w hw 17 rfl) (by decide) (by decide)) (g := (mkF m 36 #[lvR o_, lvR sr_, lvI (0 : Int32), lvI (1 : Int32), .val .null, .unset] [(.int (1 : Int32)), (.int (0 : Int32)), (.ref sr_)])) rfl (by rw [hml]; rfl) (argsL := [(.ref sr_), (.int (0 : Int32)), (.int (1 : Int32))]) (rest := []) (lenOf pd_4 rfl) rfl (by show 2 * 0 + _ ≤ _; exact Nat.le_of_eq rfl) (hb hby d8_36) (fun _ _ => ⟨rfl, e2, (by decide : 0 + 2 ≤ _), (by decide : 0 + 3 ≤ _)⟩)
  dsimp only [Pt.U, Pt.locs, Pt.cells, Pt.slots] at X3 l3 y3 z3 st3 hQ3
  subst l3 y3 z3
  obtain ⟨h3, e3⟩ : ∃ z, T3.heap = z := ⟨_, rfl⟩
  rw [e3] at hQ3
  obtain ⟨k_w_3, z_w_3, vs_w_3, nw__3, rfl, N3q, K3, sznw__3, g3_0, g3_1, qx3_0⟩ := hQ3
  have N4 := Fr.app N0 N3q
  have ge5 : n0 ≤ nw__3 := Nat.le_trans (Nat.le_trans (Nat.le_of_eq O0.1.symm) O0.2.1) sznw__3
  have sz6 : h0.size ≤ nw__3 := Nat.le_trans K0.1 sznw__3
  have pre7 : ∀ t, own_S p e below m T3 41 #[lvR o_, lvR sr_, lvI (0 : Int32), lvI (1 : Int32), .val .null, lvR nw__3] [] t → G t := by
    intro t kt
    refine pre0 t ?_
    show own_S p e below m s₁ 0 #[lvR o_, lvR sr_, lvI (0 : Int32), lvI (1 : Int32), .val .null, .unset] [] _
    refine XS.aloadN X0.here hx rfl (hb hby d8_0) rfl rfl ?_
    show own_S p e below m s₁ 1 #[lvR o_, lvR sr_, lvI (0 : Int32), lvI (1 : Int32), .val .null, .unset] [(.ref o_)] _
    refine st1 _ ?_
    refine XS.iloadN X1.here hx rfl (hb hby d8_4) rfl ?_
    show own_S p e below m T1 5 #[lvR o_, lvR sr_, lvI (0 : Int32), lvI (1 : Int32), .val .null, .unset] [(.int (1 : Int32))] _
    refine XS.ifYes X1.here hx rfl (pc0 := 5) (pc' := 27) rfl (hb hby d8_5) rfl ((if0 _ _).trans (feq (by decide : ¬ ((1 : Int32) = (0 : Int32)))).2) (by decide) (by decide) ?_
    show own_S p e below m T1 27 #[lvR o_, lvR sr_, lvI (0 : Int32), lvI (1 : Int32), .val .null, .unset] [] _
    refine st2 _ ?_
    show own_S p e below m T2 30 #[lvR o_, lvR sr_, lvI (0 : Int32), lvI (1 : Int32), .val .null, .unset] [(.int w_COMPACT_STRINGS)] _
    refine XS.ifNo X2.here hx rfl (hb hby d8_30) rfl ((if0 _ _).trans (feq hz_0).1) ?_
    refine XS.aloadN X2.here hx rfl (hb hby d8_33) rfl rfl ?_
    refine XS.iloadN X2.here hx rfl (hb hby d8_34) rfl ?_
    refine XS.iloadN X2.here hx rfl (hb hby d8_35) rfl ?_
    show own_S p e below m T2 36 #[lvR o_, lvR sr_, lvI (0 : Int32), lvI (1 : Int32), .val .null, .unset] [(.int (1 : Int32)), (.int (0 : Int32)), (.ref sr_)] _
    refine st3 _ ?_
    refine XS.astore X3.here hx rfl (hb hby d8_39) rfl rfl (l' := #[lvR o_, lvR sr_, lvI (0 : Int32), lvI (1 : Int32), .val .null, lvR nw__3]) rfl ?_
    exact kt
  rcases qx3_0 with hz8 | hz8
  · have f9 : Arv Z h3 nw__3 k_w_3 .byte (1 : Int32) vs_w_3 (.int (0 : Int32)) := by have q := g3_1; rw [hz8] at q; exact q
    have f11 : Old Z n0 h3 := O0.keep K3 all0
    obtain ⟨_, _, ⟨T10, L10, k10, n10⟩, -, X10, ⟨Lc10, hQ10, l10, y10, z10⟩, st10⟩ := Jvm.LawKit.callS X3 hx (y := (⟨"java/lang/StringUTF16", "coderFromArrayLen", "([BI)B"⟩ : MethodName)) hown (mvT hZ (own_w hw 23 rfl)) (mvT hZ (own_w hw 24 rfl)) (mvT hZ (own_w hw 17 rfl)) (mvT hZ (own_w hw 25 rfl)) (by decide) (backOf (W := 1) (rmcoderFromArrayLen9 l Z a0 hw [] nw__3 k_w_3 vs_w_3 h3 n0 f11 g3_0 f9) hZ (own_w hw 25 rfl) (own_w hw 17 rfl) (by decide) (by decide)) (g := (mkF m 45 #[lvR o_, lvR sr_, lvI (0 : Int32), lvI (1 : Int32), .val .null, lvR nw__3] [(.int (1 : Int32)), (.ref nw__3), (.ref o_)])) rfl (by rw [hml]; rfl) (argsL := [(.ref nw__3), (.int (1 : Int32))]) (rest := [(.ref o_)]) (lenOf pd_6 rfl) rfl (by show 2 * 0 + _ ≤ _; exact Nat.le_of_eq rfl) (hb hby d8_45) (fun _ _ => ⟨rfl, e3, (by decide : 2 + 0 ≤ _), (by decide : 3 + 0 ≤ _)⟩)
    dsimp only [Pt.U, Pt.locs, Pt.cells, Pt.slots] at X10 l10 y10 z10 st10 hQ10
    subst l10 y10 z10
    obtain ⟨h10, e10⟩ : ∃ z, T10.heap = z := ⟨_, rfl⟩
    rw [e10] at hQ10
    obtain ⟨rfl, N10q, hh10⟩ := hQ10
    have N12 := Fr.app N4 N10q
    have e10' : T10.heap = h3 := e10.trans hh10
    have f13 : Fld Z h3 o_ "java/lang/String" "coder" "B" (.int u_coder_o_) := P3.keep K3 nin0
    have f14 : Exa Z h3 o_ "java/lang/String" := P2.keep K3
    obtain ⟨T15, h15, X15, e15, W15, st15⟩ := putF X10 hx hZ hown (host := "") (Or.inl (own_w hw 26 rfl)) Via.refl e10' f13 f14 (Or.inr ⟨(own_w hw 27 rfl), rfl, hnm⟩) (own_w hw 1 rfl) (ty := .byte) (by decide) rfl rfl (g := (mkF m 48 #[lvR o_, lvR sr_, lvI (0 : Int32), lvI (1 : Int32), .val .null, lvR nw__3] [(.int (0 : Int32)), (.ref o_)])) rfl rfl (hb hby d8_48)
    have N16 := Fr.snoc X15 N12 P10
    have f17 : Fld Z h15 o_ "java/lang/String" "coder" "B" (.int (0 : Int32)) := f13.same W15
    have f18 : Fld Z h3 o_ "java/lang/String" "value" "[B" u_value_o_ := P4.keep K3 nin0
    have f19 : Fld Z h15 o_ "java/lang/String" "value" "[B" u_value_o_ := f18.other W15 (Or.inr (slot_ne (Or.inr (own_w hw 29 rfl)) (Or.inr (own_w hw 27 rfl)) (by decide) (t := (.array .byte)) (t' := .byte) (by decide) (by decide)))
    have f20 : Exa Z h15 o_ "java/lang/String" := f14.wr W15
    obtain ⟨T21, h21, X21, e21, W21, st21⟩ := putF X15 hx hZ hown (host := "") (Or.inl (own_w hw 28 rfl)) Via.refl e15 f19 f20 (Or.inr ⟨(own_w hw 29 rfl), rfl, hnm⟩) (own_w hw 1 rfl) (ty := (.array .byte)) (by decide) rfl rfl (g := (mkF m 54 #[lvR o_, lvR sr_, lvI (0 : Int32), lvI (1 : Int32), .val .null, lvR nw__3] [(.ref nw__3), (.ref o_)])) rfl rfl (hb hby d8_54)
    have N22 := Fr.snoc X21 N16 P10
    have f23 : Fld Z h21 o_ "java/lang/String" "value" "[B" (.ref nw__3) := f19.same W21
    have pre24 : ∀ t, own_S p e below m T21 57 #[lvR o_, lvR sr_, lvI (0 : Int32), lvI (1 : Int32), .val .null, lvR nw__3] [] t → G t := by
      intro t kt
      refine pre7 t ?_
      show own_S p e below m T3 41 #[lvR o_, lvR sr_, lvI (0 : Int32), lvI (1 : Int32), .val .null, lvR nw__3] [] _
      refine XS.aloadN X3.here hx rfl (hb hby d8_41) rfl rfl ?_
      refine XS.aload X3.here hx rfl (hb hby d8_42) rfl rfl ?_
      refine XS.iloadN X3.here hx rfl (hb hby d8_44) rfl ?_
      show own_S p e below m T3 45 #[lvR o_, lvR sr_, lvI (0 : Int32), lvI (1 : Int32), .val .null, lvR nw__3] [(.int (1 : Int32)), (.ref nw__3), (.ref o_)] _
      refine st10 _ ?_
      show own_S p e below m T10 48 #[lvR o_, lvR sr_, lvI (0 : Int32), lvI (1 : Int32), .val .null, lvR nw__3] [(.int (0 : Int32)), (.ref o_)] _
      refine st15 _ ?_
      refine XS.aloadN X15.here hx rfl (hb hby d8_51) rfl rfl ?_
      refine XS.aload X15.here hx rfl (hb hby d8_52) rfl rfl ?_
      show own_S p e below m T15 54 #[lvR o_, lvR sr_, lvI (0 : Int32), lvI (1 : Int32), .val .null, lvR nw__3] [(.ref nw__3), (.ref o_)] _
      refine st21 _ ?_
      exact kt
    have f26 : Exa Z h15 nw__3 "[B" := g3_0.wr W15
    have f27 : Exa Z h21 nw__3 "[B" := f26.wr W21
    have ne29 : o_ ≠ nw__3 := Nat.ne_of_lt (Nat.lt_of_lt_of_le P2.lt sznw__3)
    have f28 : Arv Z h15 nw__3 k_w_3 .byte (1 : Int32) vs_w_3 (.int (0 : Int32)) := f9.other W15 (Ne.symm ne29)
    have f30 : Arv Z h21 nw__3 k_w_3 .byte (1 : Int32) vs_w_3 (.int (0 : Int32)) := f28.other W21 (Ne.symm ne29)
    have f31 : Keep h0 h3 [o_] := K0.trans K3 all0
    have f32 : Keep h0 h15 [o_] := f31.wr W15 (Or.inl (List.mem_of_getElem? (i := 0) rfl))
    have f33 : Keep h0 h21 [o_] := f32.wr W21 (Or.inl (List.mem_of_getElem? (i := 0) rfl))
    obtain ⟨fs, hr, hrun, hended, hW, hsame⟩ := X21.leave (v := none) (fun _ => rfl)
    refine ⟨_, _, hG _ (pre24 _ (X21.returnOut hx Bd.returns (hb hby d8_57) hr)), hrun, hended, _, _, rfl, ?_, ⟨_, rfl⟩, hW, hsame.mono (by decide) (by decide)⟩
    show QIa1 Z o_ sr_ ks_ x0_ u_coder_o_ u_value_o_ w_COMPACT_STRINGS h0 n0 _ T21.heap _
    rw [e21]
    exact ⟨k_w_3, (1 : Int32), vs_w_3, nw__3, rfl, N22, f33, sz6, f23, f27, f30, (by decide)⟩
  · have f34 : Arv Z h3 nw__3 k_w_3 .byte (2 : Int32) vs_w_3 (.int (0 : Int32)) := by have q := g3_1; rw [hz8] at q; exact q
    have f36 : Old Z n0 h3 := O0.keep K3 all0
    obtain ⟨_, _, ⟨T35, L35, k35, n35⟩, -, X35, ⟨Lc35, hQ35, l35, y35, z35⟩, st35⟩ := Jvm.LawKit.callS X3 hx (y := (⟨"java/lang/StringUTF16", "coderFromArrayLen", "([BI)B"⟩ : MethodName)) hown (mvT hZ (own_w hw 23 rfl)) (mvT hZ (own_w hw 24 rfl)) (mvT hZ (own_w hw 17 rfl)) (mvT hZ (own_w hw 25 rfl)) (by decide) (backOf (W := 1) (rmcoderFromArrayLen10 l Z a0 hw [] nw__3 k_w_3 vs_w_3 h3 n0 f36 g3_0 f34) hZ (own_w hw 25 rfl) (own_w hw 17 rfl) (by decide) (by decide)) (g := (mkF m 45 #[lvR o_, lvR sr_, lvI (0 : Int32), lvI (1 : Int32), .val .null, lvR nw__3] [(.int (1 : Int32)), (.ref nw__3), (.ref o_)])) rfl (by rw [hml]; rfl) (argsL := [(.ref nw__3), (.int (1 : Int32))]) (rest := [(.ref o_)]) (lenOf pd_6 rfl) rfl (by show 2 * 0 + _ ≤ _; exact Nat.le_of_eq rfl) (hb hby d8_45) (fun _ _ => ⟨rfl, e3, (by decide : 2 + 0 ≤ _), (by decide : 3 + 0 ≤ _)⟩)
    dsimp only [Pt.U, Pt.locs, Pt.cells, Pt.slots] at X35 l35 y35 z35 st35 hQ35
    subst l35 y35 z35
    obtain ⟨h35, e35⟩ : ∃ z, T35.heap = z := ⟨_, rfl⟩
    rw [e35] at hQ35
    obtain ⟨rfl, N35q, hh35⟩ := hQ35
    have N37 := Fr.app N4 N35q
    have e35' : T35.heap = h3 := e35.trans hh35
    have f38 : Fld Z h3 o_ "java/lang/String" "coder" "B" (.int u_coder_o_) := P3.keep K3 nin0
    have f39 : Exa Z h3 o_ "java/lang/String" := P2.keep K3
    obtain ⟨T40, h40, X40, e40, W40, st40⟩ := putF X35 hx hZ hown (host := "") (Or.inl (own_w hw 26 rfl)) Via.refl e35' f38 f39 (Or.inr ⟨(own_w hw 27 rfl), rfl, hnm⟩) (own_w hw 1 rfl) (ty := .byte) (by decide) rfl rfl (g := (mkF m 48 #[lvR o_, lvR sr_, lvI (0 : Int32), lvI (1 : Int32), .val .null, lvR nw__3] [(.int (1 : Int32)), (.ref o_)])) rfl rfl (hb hby d8_48)
    have N41 := Fr.snoc X40 N37 P10
    have f42 : Fld Z h40 o_ "java/lang/String" "coder" "B" (.int (1 : Int32)) := f38.same W40
    have f43 : Fld Z h3 o_ "java/lang/String" "value" "[B" u_value_o_ := P4.keep K3 nin0
    have f44 : Fld Z h40 o_ "java/lang/String" "value" "[B" u_value_o_ := f43.other W40 (Or.inr (slot_ne (Or.inr (own_w hw 29 rfl)) (Or.inr (own_w hw 27 rfl)) (by decide) (t := (.array .byte)) (t' := .byte) (by decide) (by decide)))
    have f45 : Exa Z h40 o_ "java/lang/String" := f39.wr W40
    obtain ⟨T46, h46, X46, e46, W46, st46⟩ := putF X40 hx hZ hown (host := "") (Or.inl (own_w hw 28 rfl)) Via.refl e40 f44 f45 (Or.inr ⟨(own_w hw 29 rfl), rfl, hnm⟩) (own_w hw 1 rfl) (ty := (.array .byte)) (by decide) rfl rfl (g := (mkF m 54 #[lvR o_, lvR sr_, lvI (0 : Int32), lvI (1 : Int32), .val .null, lvR nw__3] [(.ref nw__3), (.ref o_)])) rfl rfl (hb hby d8_54)
    have N47 := Fr.snoc X46 N41 P10
    have f48 : Fld Z h46 o_ "java/lang/String" "value" "[B" (.ref nw__3) := f44.same W46
    have pre49 : ∀ t, own_S p e below m T46 57 #[lvR o_, lvR sr_, lvI (0 : Int32), lvI (1 : Int32), .val .null, lvR nw__3] [] t → G t := by
      intro t kt
      refine pre7 t ?_
      show own_S p e below m T3 41 #[lvR o_, lvR sr_, lvI (0 : Int32), lvI (1 : Int32), .val .null, lvR nw__3] [] _
      refine XS.aloadN X3.here hx rfl (hb hby d8_41) rfl rfl ?_
      refine XS.aload X3.here hx rfl (hb hby d8_42) rfl rfl ?_
      refine XS.iloadN X3.here hx rfl (hb hby d8_44) rfl ?_
      show own_S p e below m T3 45 #[lvR o_, lvR sr_, lvI (0 : Int32), lvI (1 : Int32), .val .null, lvR nw__3] [(.int (1 : Int32)), (.ref nw__3), (.ref o_)] _
      refine st35 _ ?_
      show own_S p e below m T35 48 #[lvR o_, lvR sr_, lvI (0 : Int32), lvI (1 : Int32), .val .null, lvR nw__3] [(.int (1 : Int32)), (.ref o_)] _
      refine st40 _ ?_
      refine XS.aloadN X40.here hx rfl (hb hby d8_51) rfl rfl ?_
      refine XS.aload X40.here hx rfl (hb hby d8_52) rfl rfl ?_
      show own_S p e below m T40 54 #[lvR o_, lvR sr_, lvI (0 : Int32), lvI (1 : Int32), .val .null, lvR nw__3] [(.ref nw__3), (.ref o_)] _
      refine st46 _ ?_
      exact kt
    have f51 : Exa Z h40 nw__3 "[B" := g3_0.wr W40
    have f52 : Exa Z h46 nw__3 "[B" := f51.wr W46
    have ne54 : o_ ≠ nw__3 := Nat.ne_of_lt (Nat.lt_of_lt_of_le P2.lt sznw__3)
    have f53 : Arv Z h40 nw__3 k_w_3 .byte (2 : Int32) vs_w_3 (.int (0 : Int32)) := f34.other W40 (Ne.symm ne54)
    have f55 : Arv Z h46 nw__3 k_w_3 .byte (2 : Int32) vs_w_3 (.int (0 : Int32)) := f53.other W46 (Ne.symm ne54)
    have f56 : Keep h0 h3 [o_] := K0.trans K3 all0
    have f57 : Keep h0 h40 [o_] := f56.wr W40 (Or.inl (List.mem_of_getElem? (i := 0) rfl))
    have f58 : Keep h0 h46 [o_] := f57.wr W46 (Or.inl (List.mem_of_getElem? (i := 0) rfl))
    obtain ⟨fs, hr, hrun, hended, hW, hsame⟩ := X46.leave (v := none) (fun _ => rfl)
    refine ⟨_, _, hG _ (pre49 _ (X46.returnOut hx Bd.returns (hb hby d8_57) hr)), hrun, hended, _, _, rfl, ?_, ⟨_, rfl⟩, hW, hsame.mono (by decide) (by decide)⟩
    show QIa1 Z o_ sr_ ks_ x0_ u_coder_o_ u_value_o_ w_COMPACT_STRINGS h0 n0 _ T46.heap _
    rw [e46]
    exact ⟨k_w_3, (2 : Int32), vs_w_3, nw__3, rfl, N47, f58, sz6, f48, f52, f55, (by decide)⟩
theorem d10_0 : decode jdk_42_method_3_code 0 = .ok (.aload_n 0, 1) := by decide +kernel
theorem d10_1 : decode jdk_42_method_3_code 1 = .ok (.aload_n 1, 1) := by decide +kernel
theorem d10_2 : decode jdk_42_method_3_code 2 = .ok (.iconst 0, 1) := by decide +kernel
theorem d10_3 : decode jdk_42_method_3_code 3 = .ok (.aload_n 1, 1) := by decide +kernel
theorem d10_4 : decode jdk_42_method_3_code 4 = .ok (.arraylength, 1) := by decide +kernel
theorem d10_5 : decode jdk_42_method_3_code 5 = .ok (.aconst_null, 1) := by decide +kernel
theorem d10_6 : decode jdk_42_method_3_code 6 = .ok (.invokespecial 27, 3) := by decide +kernel
theorem pd_7 : parseMethodDescriptor "([CIILjava/lang/Void;)V" = some ⟨[(.array .char), .int, .int, (.object "java/lang/Void")], none⟩ := by decide +kernel
theorem d10_9 : decode jdk_42_method_3_code 9 = .ok (.return_, 1) := by decide +kernel
theorem efIb1 (m : MethodId) (o_ : Addr) (sr_ : Addr) : entryFrame m #[(.ref o_), (.ref sr_)] 2 = mkF m 0 #[lvR o_, lvR sr_] [] := by first | (simp [entryFrame, mkF, argsToLocals, Value.category]; done) | rfl
def QIb1 (Z : State) (o_ : Addr) (sr_ : Addr) (ks_ : ClassId) (x0_ : Int32) (u_coder_o_ : Int32) (u_value_o_ : Value) (w_COMPACT_STRINGS : Int32) (h0 : Heap) (n0 : Nat) (v : Option Value) (h : Heap) (L : List Loc) : Prop := ∃ k_w : ClassId, ∃ z_w : Int32, ∃ vs_w : List Value, ∃ nw_ : Addr, v = none ∧ Fr n0 L ∧ Keep h0 h [o_] ∧ h0.size ≤ nw_ ∧ Fld Z h o_ "java/lang/String" "value" "[B" (.ref nw_) ∧ Exa Z h nw_ "[B" ∧ Arv Z h nw_ k_w .byte z_w vs_w (.int (0 : Int32)) ∧ ¬ (z_w = (0 : Int32))
set_option maxRecDepth 65536 in
set_option maxHeartbeats 40000000 in
theorem rmIb1 (l : Launch) (Z : State) (a0 : Array Value) (hw : ∀ d ∈ tables_1, d.before a0 Z = true) (ws : List Jvm.Cond) (o_ : Addr) (sr_ : Addr) (ks_ : ClassId) (x0_ : Int32) (u_coder_o_ : Int32) (u_value_o_ : Value) (w_COMPACT_STRINGS : Int32) (h0 : Heap) (n0 : Nat) (O0 : Old Z n0 h0) (hc0_ : own_chr x0_) (hz_0 : ¬ (w_COMPACT_STRINGS = (0 : Int32))) (P2 : Exa Z h0 o_ "java/lang/String") (P3 : Fld Z h0 o_ "java/lang/String" "coder" "B" (.int u_coder_o_)) (P4 : Fld Z h0 o_ "java/lang/String" "value" "[B" u_value_o_) (P5 : Arv Z h0 sr_ ks_ .char (1 : Int32) [(.int x0_)] (.int (0 : Int32))) (P6 : Sta Z Z.heap "java/lang/String" "COMPACT_STRINGS" "Z" (.int w_COMPACT_STRINGS)) (P7 : Sta Z Z.heap "java/lang/StringUTF16" "$assertionsDisabled" "Z" (.int (1 : Int32))) (P8 : Sta Z Z.heap "java/lang/StringUTF16" "HI_BYTE_SHIFT" "I" (.int (0 : Int32))) (P9 : Sta Z Z.heap "java/lang/StringUTF16" "LO_BYTE_SHIFT" "I" (.int (8 : Int32))) (P10 : n0 ≤ o_) :
    MetFree l (⟨"java/lang/String", "<init>", "([C)V"⟩ : MethodName) (head1 (Jvm.Cond.code (⟨"java/lang/String", "<init>", "([C)V"⟩ : MethodName) jdk_42_method_3_code 2 none :: ws) ({ frames := 5, cells := 2, slots := 3, locals := 74 } : Room)) (fun a U => a = #[(.ref o_), (.ref sr_)] ∧ Z.Warmed39 U.vm ∧ U.heap = h0) (fun _ _ _ _ _ => True) (fun _ U o U' => ∃ v L, o = .returned v ∧ QIb1 Z o_ sr_ ks_ x0_ u_coder_o_ u_value_o_ w_COMPACT_STRINGS h0 n0 v U'.heap L ∧ FrameEnd U o U' L ({ frames := 5, cells := 2, slots := 3, locals := 74 } : Room).cells ({ frames := 5, cells := 2, slots := 3, locals := 74 } : Room).slots) := by
  refine MetFree.of_bodySF (plainFor_of_name pn_1) hisR ?_
  intro p e s m args below meth c s₁ Bd hml0 hP hK
  obtain ⟨rfl, hZ, hh⟩ := hP
  have hx := Bd.exec
  have hby := Bd.bytes
  have hml : c.maxLocals = 2 := hml0
  have hown : s.vm.findClass "java/lang/String" = some m.cls := findClass_of_methodNamed Bd.named
  have hnm := (name_of_methodNamed Bd.named Bd.method).1
  have X0 : Stand p l e ({ frames := 5, cells := 2, slots := 3, locals := 74 } : Room) s m #[(.ref o_), (.ref sr_)] below meth c s₁ [] 0 0 := Stand.of_body Bd
  have e0 : s₁.heap = h0 := by rw [← hh, Bd.state]; rfl
  have N0 := Fr.nil n0
  obtain ⟨G, pre0, hG⟩ : ∃ G : State → Prop, (∀ t, own_S p e below m s₁ 0 #[lvR o_, lvR sr_] [] t → G t) ∧ (∀ t, G t → Steps p.tables e below (s₁.setTop (entryFrame m #[(.ref o_), (.ref sr_)] 2)) t) := ⟨fun t => Steps p.tables e below (s₁.setTop (entryFrame m #[(.ref o_), (.ref sr_)] 2)) t, fun t k => castTop (efIb1 m o_ sr_) k, fun _ k => k⟩
  have K0 : Keep h0 h0 [o_] := Keep.refl _ _
  obtain ⟨c1, r1, q1, s1, z1, y1, G1⟩ := id P5
  obtain ⟨_, _, ⟨T2, L2, k2, n2⟩, -, X2, ⟨Lc2, hQ2, l2, y2, z2⟩, st2⟩ := X0.specialBack hx (y := (⟨"java/lang/String", "<init>", "([CIILjava/lang/Void;)V"⟩ : MethodName)) rfl hown (mvT hZ (own_w hw 7 rfl)) (mvT hZ (own_w hw 8 rfl)) (mvT hZ (own_w hw 10 rfl)) (by decide) (backOf (W := 0) (rmIa1 l Z a0 hw [] o_ sr_ ks_ x0_ u_coder_o_ u_value_o_ w_COMPACT_STRINGS h0 n0 O0 hc0_ hz_0 P2 P3 P4 P5 P6 P7 P8 P9 P10) hZ (own_w hw 10 rfl) (own_w hw 2 rfl) (by decide) (by decide)) (g := (mkF m 6 #[lvR o_, lvR sr_] [.null, (.int (1 : Int32)), (.int (0 : Int32)), (.ref sr_), (.ref o_)])) rfl (by rw [hml]; rfl) (Steps.refl _) (a := o_) (argsL := [(.ref sr_), (.int (0 : Int32)), (.int (1 : Int32)), .null]) (rest := []) (lenOf pd_7 rfl) rfl (by show 2 * 0 + _ ≤ _; exact Nat.le_of_eq rfl) (hb hby d10_6) (fun _ _ => ⟨rfl, e0, (by decide : 0 + 2 ≤ _), (by decide : 0 + 3 ≤ _)⟩)
  dsimp only [Pt.U, Pt.locs, Pt.cells, Pt.slots] at X2 l2 y2 z2 st2 hQ2
  subst l2 y2 z2
  obtain ⟨h2, e2⟩ : ∃ z, T2.heap = z := ⟨_, rfl⟩
  rw [e2] at hQ2
  obtain ⟨k_w_2, z_w_2, vs_w_2, nw__2, rfl, N2q, K2, sznw__2, g2_0, g2_1, g2_2, qx2_0⟩ := hQ2
  have N3 := Fr.app N0 N2q
  have ge4 : n0 ≤ nw__2 := Nat.le_trans (Nat.le_trans (Nat.le_of_eq O0.1.symm) O0.2.1) sznw__2
  have sz5 : h0.size ≤ nw__2 := Nat.le_trans K0.1 sznw__2
  have pre6 : ∀ t, own_S p e below m T2 9 #[lvR o_, lvR sr_] [] t → G t := by
    intro t kt
    refine pre0 t ?_
    show own_S p e below m s₁ 0 #[lvR o_, lvR sr_] [] _
    refine XS.aloadN X0.here hx rfl (hb hby d10_0) rfl rfl ?_
    refine XS.aloadN X0.here hx rfl (hb hby d10_1) rfl rfl ?_
    refine XS.iconst X0.here hx rfl (hb hby d10_2) ?_
    refine XS.aloadN X0.here hx rfl (hb hby d10_3) rfl rfl ?_
    show own_S p e below m s₁ 4 #[lvR o_, lvR sr_] [(.ref sr_), (.int (0 : Int32)), (.ref sr_), (.ref o_)] _
    refine X0.arraylength hx (by rw [e0]; exact r1.1) (State.isArrayOf_alike hZ.alike r1.2.1) (g := (mkF m 4 #[lvR o_, lvR sr_] [(.ref sr_), (.int (0 : Int32)), (.ref sr_), (.ref o_)])) rfl rfl (hb hby d10_4) _ ?_
    rw [len_of s1 z1]
    refine XS.aconstNull X0.here hx rfl (hb hby d10_5) ?_
    show own_S p e below m s₁ 6 #[lvR o_, lvR sr_] [.null, (.int (1 : Int32)), (.int (0 : Int32)), (.ref sr_), (.ref o_)] _
    refine st2.trans ?_
    exact kt
  have f8 : Keep h0 h2 [o_] := K0.trans K2 (allS (Or.inl (List.mem_of_getElem? (i := 0) rfl)) all0)
  obtain ⟨fs, hr, hrun, hended, hW, hsame⟩ := X2.leave (v := none) (fun _ => rfl)
  refine ⟨_, _, hG _ (pre6 _ (X2.returnOut hx Bd.returns (hb hby d10_9) hr)), hrun, hended, _, _, rfl, ?_, ⟨_, rfl⟩, hW, hsame.mono (by decide) (by decide)⟩
  show QIb1 Z o_ sr_ ks_ x0_ u_coder_o_ u_value_o_ w_COMPACT_STRINGS h0 n0 _ T2.heap _
  rw [e2]
  exact ⟨k_w_2, z_w_2, vs_w_2, nw__2, rfl, N3, f8, sz5, g2_0, g2_1, g2_2, qx2_0⟩
theorem efCp2 (m : MethodId) (sr_ : Addr) (ds_ : Addr) : entryFrame m #[(.ref sr_), (.int (0 : Int32)), (.ref ds_), (.int (0 : Int32)), (.int (2 : Int32))] 7 = mkF m 0 #[lvR sr_, lvI (0 : Int32), lvR ds_, lvI (0 : Int32), lvI (2 : Int32), .unset, .unset] [] := by first | (simp [entryFrame, mkF, argsToLocals, Value.category]; done) | rfl
def QCp2 (Z : State) (sr_ : Addr) (ks_ : ClassId) (ds_ : Addr) (kd_ : ClassId) (x0_ : Int32) (x1_ : Int32) (h0 : Heap) (n0 : Nat) (v : Option Value) (h : Heap) (L : List Loc) : Prop := ∃ vs_w : List Value, ∃ r_ : Int32, v = some (.int r_) ∧ (((0 : Int32) = r_ ∧ ((255 : Int32) < x0_)) ∨ ((1 : Int32) = r_ ∧ (¬ ((255 : Int32) < x0_)) ∧ ((255 : Int32) < x1_)) ∨ ((2 : Int32) = r_ ∧ (¬ ((255 : Int32) < x0_)) ∧ (¬ ((255 : Int32) < x1_)))) ∧ Fr n0 L ∧ Keep h0 h [ds_] ∧ Arv Z h ds_ kd_ .byte (2 : Int32) vs_w (.int (0 : Int32))
set_option maxRecDepth 65536 in
set_option maxHeartbeats 40000000 in
theorem rmCp2 (l : Launch) (Z : State) (a0 : Array Value) (hw : ∀ d ∈ tables_1, d.before a0 Z = true) (ws : List Jvm.Cond) (sr_ : Addr) (ks_ : ClassId) (ds_ : Addr) (kd_ : ClassId) (x0_ : Int32) (x1_ : Int32) (h0 : Heap) (n0 : Nat) (O0 : Old Z n0 h0) (P0 : Arv Z h0 sr_ ks_ .char (2 : Int32) [(.int x0_), (.int x1_)] (.int (0 : Int32))) (P1 : Arv Z h0 ds_ kd_ .byte (2 : Int32) [(.int (0 : Int32)), (.int (0 : Int32))] (.int (0 : Int32))) (P2 : n0 ≤ ds_) (P3 : sr_ ≠ ds_) :
    MetFree l (⟨"java/lang/StringUTF16", "compress", "([CI[BII)I"⟩ : MethodName) (head1 (Jvm.Cond.code (⟨"java/lang/StringUTF16", "compress", "([CI[BII)I"⟩ : MethodName) jdk_52_method_21_code 7 (some .int) :: ws) ({ frames := 0, cells := 0, slots := 0, locals := 0 } : Room)) (fun a U => a = #[(.ref sr_), (.int (0 : Int32)), (.ref ds_), (.int (0 : Int32)), (.int (2 : Int32))] ∧ Z.Warmed39 U.vm ∧ U.heap = h0) (fun _ _ _ _ _ => True) (fun _ U o U' => ∃ v L, o = .returned v ∧ QCp2 Z sr_ ks_ ds_ kd_ x0_ x1_ h0 n0 v U'.heap L ∧ FrameEnd U o U' L ({ frames := 0, cells := 0, slots := 0, locals := 0 } : Room).cells ({ frames := 0, cells := 0, slots := 0, locals := 0 } : Room).slots) := by
  refine MetFree.of_bodySF (plainFor_of_name pn_0) hisR ?_
  intro p e s m args below meth c s₁ Bd hml0 hP hK
  obtain ⟨rfl, hZ, hh⟩ := hP
  have hx := Bd.exec
  have hby := Bd.bytes
  have hml : c.maxLocals = 7 := hml0
  have hown : s.vm.findClass "java/lang/StringUTF16" = some m.cls := findClass_of_methodNamed Bd.named
  have hnm := (name_of_methodNamed Bd.named Bd.method).1
  have X0 : Stand p l e ({ frames := 0, cells := 0, slots := 0, locals := 0 } : Room) s m #[(.ref sr_), (.int (0 : Int32)), (.ref ds_), (.int (0 : Int32)), (.int (2 : Int32))] below meth c s₁ [] 0 0 := Stand.of_body Bd
  have e0 : s₁.heap = h0 := by rw [← hh, Bd.state]; rfl
  have N0 := Fr.nil n0
  obtain ⟨G, pre0, hG⟩ : ∃ G : State → Prop, (∀ t, own_S p e below m s₁ 0 #[lvR sr_, lvI (0 : Int32), lvR ds_, lvI (0 : Int32), lvI (2 : Int32), .unset, .unset] [] t → G t) ∧ (∀ t, G t → Steps p.tables e below (s₁.setTop (entryFrame m #[(.ref sr_), (.int (0 : Int32)), (.ref ds_), (.int (0 : Int32)), (.int (2 : Int32))] 7)) t) := ⟨fun t => Steps p.tables e below (s₁.setTop (entryFrame m #[(.ref sr_), (.int (0 : Int32)), (.ref ds_), (.int (0 : Int32)), (.int (2 : Int32))] 7)) t, fun t k => castTop (efCp2 m sr_ ds_) k, fun _ k => k⟩
  have K0 : Keep h0 h0 [ds_] := Keep.refl _ _
  obtain ⟨c1, r1, q1, s1, z1, y1, G1⟩ := id P0
  have hin1 : ¬ ((0 : Int32) < 0 ∨ c1.slots.size ≤ ((0 : Int32)).toNatClampNeg) := inb_of s1 ⟨by decide, by decide⟩
  have hat1 : c1.slots[((0 : Int32)).toNatClampNeg]? = some (.int x0_) := Has.at y1 hin1 rfl
  have pre2 : ∀ t, own_S p e below m s₁ 20 #[lvR sr_, lvI (0 : Int32), lvR ds_, lvI (0 : Int32), lvI (2 : Int32), lvI (0 : Int32), lvI x0_] [(.int (255 : Int32)), (.int x0_)] t → G t := by
    intro t kt
    refine pre0 t ?_
    show own_S p e below m s₁ 0 #[lvR sr_, lvI (0 : Int32), lvR ds_, lvI (0 : Int32), lvI (2 : Int32), .unset, .unset] [] _
    refine XS.iconst X0.here hx rfl (hb hby d1_0) ?_
    refine XS.istore X0.here hx rfl (hb hby d1_1) rfl (l' := #[lvR sr_, lvI (0 : Int32), lvR ds_, lvI (0 : Int32), lvI (2 : Int32), lvI (0 : Int32), .unset]) rfl ?_
    refine XS.iload X0.here hx rfl (hb hby d1_3) rfl ?_
    refine XS.iload X0.here hx rfl (hb hby d1_5) rfl ?_
    show own_S p e below m s₁ 7 #[lvR sr_, lvI (0 : Int32), lvR ds_, lvI (0 : Int32), lvI (2 : Int32), lvI (0 : Int32), .unset] [(.int (2 : Int32)), (.int (0 : Int32))] _
    refine XS.icmpNo X0.here hx rfl (hb hby d1_7) rfl (tlt (by decide : (0 : Int32) < (2 : Int32))).2.1 ?_
    refine XS.aloadN X0.here hx rfl (hb hby d1_10) rfl rfl ?_
    refine XS.iloadN X0.here hx rfl (hb hby d1_11) rfl ?_
    show own_S p e below m s₁ 12 #[lvR sr_, lvI (0 : Int32), lvR ds_, lvI (0 : Int32), lvI (2 : Int32), lvI (0 : Int32), .unset] [(.int (0 : Int32)), (.ref sr_)] _
    refine X0.caload hx (j := (0 : Int32)) (v := (.int x0_)) (by rw [e0]; exact r1.1) (State.isArrayOf_alike hZ.alike r1.2.1) r1.2.2 hin1 hat1 (g := (mkF m 12 #[lvR sr_, lvI (0 : Int32), lvR ds_, lvI (0 : Int32), lvI (2 : Int32), lvI (0 : Int32), .unset] [(.int (0 : Int32)), (.ref sr_)])) rfl rfl (hb hby d1_12) _ ?_
    refine XS.istore X0.here hx rfl (hb hby d1_13) rfl (l' := #[lvR sr_, lvI (0 : Int32), lvR ds_, lvI (0 : Int32), lvI (2 : Int32), lvI (0 : Int32), lvI x0_]) rfl ?_
    refine XS.iload X0.here hx rfl (hb hby d1_15) rfl ?_
    refine XS.sipush X0.here hx rfl (hb hby d1_17) ?_
    exact kt
  by_cases hc3 : (255 : Int32) < x0_
  · have pre4 : ∀ t, own_S p e below m s₁ 25 #[lvR sr_, lvI (0 : Int32), lvR ds_, lvI (0 : Int32), lvI (2 : Int32), lvI (0 : Int32), lvI x0_] [(.int (0 : Int32))] t → G t := by
      intro t kt
      refine pre2 t ?_
      show own_S p e below m s₁ 20 #[lvR sr_, lvI (0 : Int32), lvR ds_, lvI (0 : Int32), lvI (2 : Int32), lvI (0 : Int32), lvI x0_] [(.int (255 : Int32)), (.int x0_)] _
      refine XS.icmpNo X0.here hx rfl (hb hby d1_20) rfl (tlt hc3).2.2.2 ?_
      refine XS.iload X0.here hx rfl (hb hby d1_23) rfl ?_
      exact kt
    obtain ⟨fs, hr, hrun, hended, hW, hsame⟩ := X0.leave (v := some (.int (0 : Int32))) (fun h => by rw [Bd.returns] at h; cases h)
    refine ⟨_, _, hG _ (pre4 _ (retOut X0 hx Bd.returns rfl (Or.inl ⟨rfl, Or.inl rfl, _, rfl⟩) (hb hby d1_25) hr)), hrun, hended, _, _, rfl, ?_, ⟨_, rfl⟩, hW, hsame.mono (by decide) (by decide)⟩
    show QCp2 Z sr_ ks_ ds_ kd_ x0_ x1_ h0 n0 _ s₁.heap _
    rw [e0]
    exact ⟨[(.int (0 : Int32)), (.int (0 : Int32))], (0 : Int32), rfl, (Or.inl ⟨rfl, hc3⟩), N0, K0, P1⟩
  · obtain ⟨c6, r6, q6, s6, z6, y6, G6⟩ := id P1
    have hin6 : ¬ ((0 : Int32) < 0 ∨ c6.slots.size ≤ ((0 : Int32)).toNatClampNeg) := inb_of s6 ⟨by decide, by decide⟩
    obtain ⟨T6, h6, X6, e6, W6, st6⟩ := stB X0 hx hZ e0 r6 (j := (0 : Int32)) hin6 (g := (mkF m 31 #[lvR sr_, lvI (0 : Int32), lvR ds_, lvI (0 : Int32), lvI (2 : Int32), lvI (0 : Int32), lvI x0_] [(.int (x0_.toInt8.toInt32)), (.int (0 : Int32)), (.ref ds_)])) rfl rfl (hb hby d1_31)
    have N7 := Fr.snoc X6 N0 P2
    have f8 : Arv Z h6 ds_ kd_ .byte (2 : Int32) [(.int ((x0_.toInt8.toInt32).toInt8.toInt32)), (.int (0 : Int32))] (.int (0 : Int32)) := Arv.set r6 q6 s6 z6 y6 G6 (fits_nar_byte _) W6 0 rfl (Nat.le_of_ble_eq_true rfl)
    have f9 : Arv Z h6 ds_ kd_ .byte (2 : Int32) [(.int (x0_.toInt8.toInt32)), (.int (0 : Int32))] (.int (0 : Int32)) := by have q := f8; rw [own_i2b2] at q; exact q
    have f10 : Arv Z h6 sr_ ks_ .char (2 : Int32) [(.int x0_), (.int x1_)] (.int (0 : Int32)) := P0.other W6 P3
    obtain ⟨c11, r11, q11, s11, z11, y11, G11⟩ := id f10
    have hin11 : ¬ ((1 : Int32) < 0 ∨ c11.slots.size ≤ ((1 : Int32)).toNatClampNeg) := inb_of s11 ⟨by decide, by decide⟩
    have hat11 : c11.slots[((1 : Int32)).toNatClampNeg]? = some (.int x1_) := Has.at y11 hin11 rfl
    have pre12 : ∀ t, own_S p e below m T6 20 #[lvR sr_, lvI (1 : Int32), lvR ds_, lvI (1 : Int32), lvI (2 : Int32), lvI (1 : Int32), lvI x1_] [(.int (255 : Int32)), (.int x1_)] t → G t := by
      intro t kt
      refine pre2 t ?_
      show own_S p e below m s₁ 20 #[lvR sr_, lvI (0 : Int32), lvR ds_, lvI (0 : Int32), lvI (2 : Int32), lvI (0 : Int32), lvI x0_] [(.int (255 : Int32)), (.int x0_)] _
      refine XS.icmpYes X0.here hx rfl (pc0 := 20) (pc' := 26) rfl (hb hby d1_20) rfl (flt hc3).2.2.2 (by decide) (by decide) ?_
      refine XS.aloadN X0.here hx rfl (hb hby d1_26) rfl rfl ?_
      refine XS.iloadN X0.here hx rfl (hb hby d1_27) rfl ?_
      refine XS.iload X0.here hx rfl (hb hby d1_28) rfl ?_
      show own_S p e below m s₁ 30 #[lvR sr_, lvI (0 : Int32), lvR ds_, lvI (0 : Int32), lvI (2 : Int32), lvI (0 : Int32), lvI x0_] [(.int x0_), (.int (0 : Int32)), (.ref ds_)] _
      refine XS.i2b X0.here hx rfl (hb hby d1_30) rfl ?_
      show own_S p e below m s₁ 31 #[lvR sr_, lvI (0 : Int32), lvR ds_, lvI (0 : Int32), lvI (2 : Int32), lvI (0 : Int32), lvI x0_] [(.int (x0_.toInt8.toInt32)), (.int (0 : Int32)), (.ref ds_)] _
      refine st6 _ ?_
      refine XS.iinc X6.here hx rfl (hb hby d1_32) rfl (l' := #[lvR sr_, lvI (1 : Int32), lvR ds_, lvI (0 : Int32), lvI (2 : Int32), lvI (0 : Int32), lvI x0_]) rfl ?_
      refine XS.iinc X6.here hx rfl (hb hby d1_35) rfl (l' := #[lvR sr_, lvI (1 : Int32), lvR ds_, lvI (1 : Int32), lvI (2 : Int32), lvI (0 : Int32), lvI x0_]) rfl ?_
      refine XS.iinc X6.here hx rfl (hb hby d1_38) rfl (l' := #[lvR sr_, lvI (1 : Int32), lvR ds_, lvI (1 : Int32), lvI (2 : Int32), lvI (1 : Int32), lvI x0_]) rfl ?_
      refine XS.goto X6.here hx rfl (pc0 := 41) (pc' := 3) rfl (hb hby d1_41) (by decide) (by decide) ?_
      refine XS.iload X6.here hx rfl (hb hby d1_3) rfl ?_
      show own_S p e below m T6 5 #[lvR sr_, lvI (1 : Int32), lvR ds_, lvI (1 : Int32), lvI (2 : Int32), lvI (1 : Int32), lvI x0_] [(.int (1 : Int32))] _
      refine XS.iload X6.here hx rfl (hb hby d1_5) rfl ?_
      show own_S p e below m T6 7 #[lvR sr_, lvI (1 : Int32), lvR ds_, lvI (1 : Int32), lvI (2 : Int32), lvI (1 : Int32), lvI x0_] [(.int (2 : Int32)), (.int (1 : Int32))] _
      refine XS.icmpNo X6.here hx rfl (hb hby d1_7) rfl (tlt (by decide : (1 : Int32) < (2 : Int32))).2.1 ?_
      refine XS.aloadN X6.here hx rfl (hb hby d1_10) rfl rfl ?_
      refine XS.iloadN X6.here hx rfl (hb hby d1_11) rfl ?_
      show own_S p e below m T6 12 #[lvR sr_, lvI (1 : Int32), lvR ds_, lvI (1 : Int32), lvI (2 : Int32), lvI (1 : Int32), lvI x0_] [(.int (1 : Int32)), (.ref sr_)] _
      refine X6.caload hx (j := (1 : Int32)) (v := (.int x1_)) (by rw [e6]; exact r11.1) (State.isArrayOf_alike hZ.alike r11.2.1) r11.2.2 hin11 hat11 (g := (mkF m 12 #[lvR sr_, lvI (1 : Int32), lvR ds_, lvI (1 : Int32), lvI (2 : Int32), lvI (1 : Int32), lvI x0_] [(.int (1 : Int32)), (.ref sr_)])) rfl rfl (hb hby d1_12) _ ?_
      refine XS.istore X6.here hx rfl (hb hby d1_13) rfl (l' := #[lvR sr_, lvI (1 : Int32), lvR ds_, lvI (1 : Int32), lvI (2 : Int32), lvI (1 : Int32), lvI x1_]) rfl ?_
      refine XS.iload X6.here hx rfl (hb hby d1_15) rfl ?_
      refine XS.sipush X6.here hx rfl (hb hby d1_17) ?_
      exact kt
    by_cases hc13 : (255 : Int32) < x1_
    · have pre14 : ∀ t, own_S p e below m T6 25 #[lvR sr_, lvI (1 : Int32), lvR ds_, lvI (1 : Int32), lvI (2 : Int32), lvI (1 : Int32), lvI x1_] [(.int (1 : Int32))] t → G t := by
        intro t kt
        refine pre12 t ?_
        show own_S p e below m T6 20 #[lvR sr_, lvI (1 : Int32), lvR ds_, lvI (1 : Int32), lvI (2 : Int32), lvI (1 : Int32), lvI x1_] [(.int (255 : Int32)), (.int x1_)] _
        refine XS.icmpNo X6.here hx rfl (hb hby d1_20) rfl (tlt hc13).2.2.2 ?_
        refine XS.iload X6.here hx rfl (hb hby d1_23) rfl ?_
        exact kt
      have f16 : Keep h0 h6 [ds_] := K0.wr W6 (Or.inl (List.mem_of_getElem? (i := 0) rfl))
      obtain ⟨fs, hr, hrun, hended, hW, hsame⟩ := X6.leave (v := some (.int (1 : Int32))) (fun h => by rw [Bd.returns] at h; cases h)
      refine ⟨_, _, hG _ (pre14 _ (retOut X6 hx Bd.returns rfl (Or.inl ⟨rfl, Or.inl rfl, _, rfl⟩) (hb hby d1_25) hr)), hrun, hended, _, _, rfl, ?_, ⟨_, rfl⟩, hW, hsame.mono (by decide) (by decide)⟩
      show QCp2 Z sr_ ks_ ds_ kd_ x0_ x1_ h0 n0 _ T6.heap _
      rw [e6]
      exact ⟨[(.int (x0_.toInt8.toInt32)), (.int (0 : Int32))], (1 : Int32), rfl, (Or.inr (Or.inl ⟨rfl, hc3, hc13⟩)), N7, f16, f9⟩
    · obtain ⟨c17, r17, q17, s17, z17, y17, G17⟩ := id f9
      have hin17 : ¬ ((1 : Int32) < 0 ∨ c17.slots.size ≤ ((1 : Int32)).toNatClampNeg) := inb_of s17 ⟨by decide, by decide⟩
      obtain ⟨T17, h17, X17, e17, W17, st17⟩ := stB X6 hx hZ e6 r17 (j := (1 : Int32)) hin17 (g := (mkF m 31 #[lvR sr_, lvI (1 : Int32), lvR ds_, lvI (1 : Int32), lvI (2 : Int32), lvI (1 : Int32), lvI x1_] [(.int (x1_.toInt8.toInt32)), (.int (1 : Int32)), (.ref ds_)])) rfl rfl (hb hby d1_31)
      have N18 := Fr.snoc X17 N7 P2
      have f19 : Arv Z h17 ds_ kd_ .byte (2 : Int32) [(.int (x0_.toInt8.toInt32)), (.int ((x1_.toInt8.toInt32).toInt8.toInt32))] (.int (0 : Int32)) := Arv.set r17 q17 s17 z17 y17 G17 (fits_nar_byte _) W17 1 rfl (Nat.le_of_ble_eq_true rfl)
      have f20 : Arv Z h17 ds_ kd_ .byte (2 : Int32) [(.int (x0_.toInt8.toInt32)), (.int (x1_.toInt8.toInt32))] (.int (0 : Int32)) := by have q := f19; rw [own_i2b2] at q; exact q
      have pre21 : ∀ t, own_S p e below m T17 46 #[lvR sr_, lvI (2 : Int32), lvR ds_, lvI (2 : Int32), lvI (2 : Int32), lvI (2 : Int32), lvI x1_] [(.int (2 : Int32))] t → G t := by
        intro t kt
        refine pre12 t ?_
        show own_S p e below m T6 20 #[lvR sr_, lvI (1 : Int32), lvR ds_, lvI (1 : Int32), lvI (2 : Int32), lvI (1 : Int32), lvI x1_] [(.int (255 : Int32)), (.int x1_)] _
        refine XS.icmpYes X6.here hx rfl (pc0 := 20) (pc' := 26) rfl (hb hby d1_20) rfl (flt hc13).2.2.2 (by decide) (by decide) ?_
        refine XS.aloadN X6.here hx rfl (hb hby d1_26) rfl rfl ?_
        refine XS.iloadN X6.here hx rfl (hb hby d1_27) rfl ?_
        refine XS.iload X6.here hx rfl (hb hby d1_28) rfl ?_
        show own_S p e below m T6 30 #[lvR sr_, lvI (1 : Int32), lvR ds_, lvI (1 : Int32), lvI (2 : Int32), lvI (1 : Int32), lvI x1_] [(.int x1_), (.int (1 : Int32)), (.ref ds_)] _
        refine XS.i2b X6.here hx rfl (hb hby d1_30) rfl ?_
        show own_S p e below m T6 31 #[lvR sr_, lvI (1 : Int32), lvR ds_, lvI (1 : Int32), lvI (2 : Int32), lvI (1 : Int32), lvI x1_] [(.int (x1_.toInt8.toInt32)), (.int (1 : Int32)), (.ref ds_)] _
        refine st17 _ ?_
        refine XS.iinc X17.here hx rfl (hb hby d1_32) rfl (l' := #[lvR sr_, lvI (2 : Int32), lvR ds_, lvI (1 : Int32), lvI (2 : Int32), lvI (1 : Int32), lvI x1_]) rfl ?_
        refine XS.iinc X17.here hx rfl (hb hby d1_35) rfl (l' := #[lvR sr_, lvI (2 : Int32), lvR ds_, lvI (2 : Int32), lvI (2 : Int32), lvI (1 : Int32), lvI x1_]) rfl ?_
        refine XS.iinc X17.here hx rfl (hb hby d1_38) rfl (l' := #[lvR sr_, lvI (2 : Int32), lvR ds_, lvI (2 : Int32), lvI (2 : Int32), lvI (2 : Int32), lvI x1_]) rfl ?_
        refine XS.goto X17.here hx rfl (pc0 := 41) (pc' := 3) rfl (hb hby d1_41) (by decide) (by decide) ?_
        refine XS.iload X17.here hx rfl (hb hby d1_3) rfl ?_
        show own_S p e below m T17 5 #[lvR sr_, lvI (2 : Int32), lvR ds_, lvI (2 : Int32), lvI (2 : Int32), lvI (2 : Int32), lvI x1_] [(.int (2 : Int32))] _
        refine XS.iload X17.here hx rfl (hb hby d1_5) rfl ?_
        show own_S p e below m T17 7 #[lvR sr_, lvI (2 : Int32), lvR ds_, lvI (2 : Int32), lvI (2 : Int32), lvI (2 : Int32), lvI x1_] [(.int (2 : Int32)), (.int (2 : Int32))] _
        refine XS.icmpYes X17.here hx rfl (pc0 := 7) (pc' := 44) rfl (hb hby d1_7) rfl (flt (by decide : ¬ ((2 : Int32) < (2 : Int32)))).2.1 (by decide) (by decide) ?_
        refine XS.iload X17.here hx rfl (hb hby d1_44) rfl ?_
        exact kt
      have f23 : Keep h0 h6 [ds_] := K0.wr W6 (Or.inl (List.mem_of_getElem? (i := 0) rfl))
      have f24 : Keep h0 h17 [ds_] := f23.wr W17 (Or.inl (List.mem_of_getElem? (i := 0) rfl))
      obtain ⟨fs, hr, hrun, hended, hW, hsame⟩ := X17.leave (v := some (.int (2 : Int32))) (fun h => by rw [Bd.returns] at h; cases h)
      refine ⟨_, _, hG _ (pre21 _ (retOut X17 hx Bd.returns rfl (Or.inl ⟨rfl, Or.inl rfl, _, rfl⟩) (hb hby d1_46) hr)), hrun, hended, _, _, rfl, ?_, ⟨_, rfl⟩, hW, hsame.mono (by decide) (by decide)⟩
      show QCp2 Z sr_ ks_ ds_ kd_ x0_ x1_ h0 n0 _ T17.heap _
      rw [e17]
      exact ⟨[(.int (x0_.toInt8.toInt32)), (.int (x1_.toInt8.toInt32))], (2 : Int32), rfl, (Or.inr (Or.inr ⟨rfl, hc3, hc13⟩)), N18, f24, f20⟩
theorem efnewBytesLength13 (m : MethodId)  : entryFrame m #[(.int (2 : Int32))] 1 = mkF m 0 #[lvI (2 : Int32)] [] := by first | (simp [entryFrame, mkF, argsToLocals, Value.category]; done) | rfl
def QnewBytesLength13 (Z : State)  (h0 : Heap) (n0 : Nat) (v : Option Value) (h : Heap) (L : List Loc) : Prop := v = some (.int (4 : Int32)) ∧ Fr n0 L ∧ h = h0
set_option maxRecDepth 65536 in
set_option maxHeartbeats 40000000 in
theorem rmnewBytesLength13 (l : Launch) (Z : State) (a0 : Array Value) (hw : ∀ d ∈ tables_1, d.before a0 Z = true) (ws : List Jvm.Cond)  (h0 : Heap) (n0 : Nat) (O0 : Old Z n0 h0)  :
    MetFree l (⟨"java/lang/StringUTF16", "newBytesLength", "(I)I"⟩ : MethodName) (head1 (Jvm.Cond.code (⟨"java/lang/StringUTF16", "newBytesLength", "(I)I"⟩ : MethodName) jdk_52_method_3_code 1 (some .int) :: ws) ({ frames := 0, cells := 0, slots := 0, locals := 0 } : Room)) (fun a U => a = #[(.int (2 : Int32))] ∧ Z.Warmed39 U.vm ∧ U.heap = h0) (fun _ _ _ _ _ => True) (fun _ U o U' => ∃ v L, o = .returned v ∧ QnewBytesLength13 Z  h0 n0 v U'.heap L ∧ FrameEnd U o U' L ({ frames := 0, cells := 0, slots := 0, locals := 0 } : Room).cells ({ frames := 0, cells := 0, slots := 0, locals := 0 } : Room).slots) := by
  refine MetFree.of_bodySF (plainFor_of_name pn_0) hisR ?_
  intro p e s m args below meth c s₁ Bd hml0 hP hK
  obtain ⟨rfl, hZ, hh⟩ := hP
  have hx := Bd.exec
  have hby := Bd.bytes
  have hml : c.maxLocals = 1 := hml0
  have hown : s.vm.findClass "java/lang/StringUTF16" = some m.cls := findClass_of_methodNamed Bd.named
  have hnm := (name_of_methodNamed Bd.named Bd.method).1
  have X0 : Stand p l e ({ frames := 0, cells := 0, slots := 0, locals := 0 } : Room) s m #[(.int (2 : Int32))] below meth c s₁ [] 0 0 := Stand.of_body Bd
  have e0 : s₁.heap = h0 := by rw [← hh, Bd.state]; rfl
  have N0 := Fr.nil n0
  obtain ⟨G, pre0, hG⟩ : ∃ G : State → Prop, (∀ t, own_S p e below m s₁ 0 #[lvI (2 : Int32)] [] t → G t) ∧ (∀ t, G t → Steps p.tables e below (s₁.setTop (entryFrame m #[(.int (2 : Int32))] 1)) t) := ⟨fun t => Steps p.tables e below (s₁.setTop (entryFrame m #[(.int (2 : Int32))] 1)) t, fun t k => castTop (efnewBytesLength13 m ) k, fun _ k => k⟩
  have K0 : Keep h0 h0 [] := Keep.refl _ _
  have pre1 : ∀ t, own_S p e below m s₁ 58 #[lvI (2 : Int32)] [(.int (4 : Int32))] t → G t := by
    intro t kt
    refine pre0 t ?_
    show own_S p e below m s₁ 0 #[lvI (2 : Int32)] [] _
    refine XS.iloadN X0.here hx rfl (hb hby d5_0) rfl ?_
    show own_S p e below m s₁ 1 #[lvI (2 : Int32)] [(.int (2 : Int32))] _
    refine XS.ifYes X0.here hx rfl (pc0 := 1) (pc' := 12) rfl (hb hby d5_1) rfl ((if0 _ _).trans (flt (by decide : ¬ ((2 : Int32) < (0 : Int32)))).2.1) (by decide) (by decide) ?_
    refine XS.iloadN X0.here hx rfl (hb hby d5_12) rfl ?_
    show own_S p e below m s₁ 13 #[lvI (2 : Int32)] [(.int (2 : Int32))] _
    refine X0.ldcInt hx hown (mvT hZ (own_w hw 55 rfl)) (g := (mkF m 13 #[lvI (2 : Int32)] [(.int (2 : Int32))])) rfl (hb hby d5_13) _ ?_
    show own_S p e below m s₁ 15 #[lvI (2 : Int32)] [(.int (1073741823 : Int32)), (.int (2 : Int32))] _
    refine XS.icmpYes X0.here hx rfl (pc0 := 15) (pc' := 55) rfl (hb hby d5_15) rfl (tlt (by decide : (2 : Int32) < (1073741823 : Int32))).1 (by decide) (by decide) ?_
    refine XS.iloadN X0.here hx rfl (hb hby d5_55) rfl ?_
    refine XS.iconst X0.here hx rfl (hb hby d5_56) ?_
    show own_S p e below m s₁ 57 #[lvI (2 : Int32)] [(.int (1 : Int32)), (.int (2 : Int32))] _
    refine XS.ishl X0.here hx rfl (hb hby d5_57) rfl ?_
    exact kt
  obtain ⟨fs, hr, hrun, hended, hW, hsame⟩ := X0.leave (v := some (.int (4 : Int32))) (fun h => by rw [Bd.returns] at h; cases h)
  refine ⟨_, _, hG _ (pre1 _ (retOut X0 hx Bd.returns rfl (Or.inl ⟨rfl, Or.inl rfl, _, rfl⟩) (hb hby d5_58) hr)), hrun, hended, _, _, rfl, ?_, ⟨_, rfl⟩, hW, hsame.mono (by decide) (by decide)⟩
  show QnewBytesLength13 Z  h0 n0 _ s₁.heap _
  rw [e0]
  exact ⟨rfl, N0, rfl⟩
theorem efnewBytesFor12 (m : MethodId)  : entryFrame m #[(.int (2 : Int32))] 1 = mkF m 0 #[lvI (2 : Int32)] [] := by first | (simp [entryFrame, mkF, argsToLocals, Value.category]; done) | rfl
def QnewBytesFor12 (Z : State)  (h0 : Heap) (n0 : Nat) (v : Option Value) (h : Heap) (L : List Loc) : Prop := ∃ k3 : ClassId, ∃ nb3 : Addr, v = some (.ref nb3) ∧ Fr n0 L ∧ Keep h0 h [] ∧ h0.size ≤ nb3 ∧ Arv Z h nb3 k3 .byte (4 : Int32) [(.int (0 : Int32)), (.int (0 : Int32)), (.int (0 : Int32)), (.int (0 : Int32))] (.int (0 : Int32)) ∧ Exa Z h nb3 "[B"
set_option maxRecDepth 65536 in
set_option maxHeartbeats 40000000 in
theorem rmnewBytesFor12 (l : Launch) (Z : State) (a0 : Array Value) (hw : ∀ d ∈ tables_1, d.before a0 Z = true) (ws : List Jvm.Cond)  (h0 : Heap) (n0 : Nat) (O0 : Old Z n0 h0)  :
    MetFree l (⟨"java/lang/StringUTF16", "newBytesFor", "(I)[B"⟩ : MethodName) (head1 (Jvm.Cond.code (⟨"java/lang/StringUTF16", "newBytesFor", "(I)[B"⟩ : MethodName) jdk_52_method_2_code 1 (some (.array .byte)) :: ws) ({ frames := 1, cells := 1, slots := 4, locals := 12 } : Room)) (fun a U => a = #[(.int (2 : Int32))] ∧ Z.Warmed39 U.vm ∧ U.heap = h0) (fun _ _ _ _ _ => True) (fun _ U o U' => ∃ v L, o = .returned v ∧ QnewBytesFor12 Z  h0 n0 v U'.heap L ∧ FrameEnd U o U' L ({ frames := 1, cells := 1, slots := 4, locals := 12 } : Room).cells ({ frames := 1, cells := 1, slots := 4, locals := 12 } : Room).slots) := by
  refine MetFree.of_bodySF (plainFor_of_name pn_0) hisR ?_
  intro p e s m args below meth c s₁ Bd hml0 hP hK
  obtain ⟨rfl, hZ, hh⟩ := hP
  have hx := Bd.exec
  have hby := Bd.bytes
  have hml : c.maxLocals = 1 := hml0
  have hown : s.vm.findClass "java/lang/StringUTF16" = some m.cls := findClass_of_methodNamed Bd.named
  have hnm := (name_of_methodNamed Bd.named Bd.method).1
  have X0 : Stand p l e ({ frames := 1, cells := 1, slots := 4, locals := 12 } : Room) s m #[(.int (2 : Int32))] below meth c s₁ [] 0 0 := Stand.of_body Bd
  have e0 : s₁.heap = h0 := by rw [← hh, Bd.state]; rfl
  have N0 := Fr.nil n0
  obtain ⟨G, pre0, hG⟩ : ∃ G : State → Prop, (∀ t, own_S p e below m s₁ 0 #[lvI (2 : Int32)] [] t → G t) ∧ (∀ t, G t → Steps p.tables e below (s₁.setTop (entryFrame m #[(.int (2 : Int32))] 1)) t) := ⟨fun t => Steps p.tables e below (s₁.setTop (entryFrame m #[(.int (2 : Int32))] 1)) t, fun t k => castTop (efnewBytesFor12 m ) k, fun _ k => k⟩
  have K0 : Keep h0 h0 [] := Keep.refl _ _
  obtain ⟨_, _, ⟨T1, L1, k1, n1⟩, -, X1, ⟨Lc1, hQ1, l1, y1, z1⟩, st1⟩ := Jvm.LawKit.callS X0 hx (y := (⟨"java/lang/StringUTF16", "newBytesLength", "(I)I"⟩ : MethodName)) hown (mvT hZ (own_w hw 52 rfl)) (mvT hZ (own_w hw 53 rfl)) (mvT hZ (own_w hw 17 rfl)) (mvT hZ (own_w hw 54 rfl)) (by decide) (backOf (W := 0) (rmnewBytesLength13 l Z a0 hw []  h0 n0 O0 ) hZ (own_w hw 54 rfl) (own_w hw 17 rfl) (by decide) (by decide)) (g := (mkF m 1 #[lvI (2 : Int32)] [(.int (2 : Int32))])) rfl (by rw [hml]; rfl) (argsL := [(.int (2 : Int32))]) (rest := []) (lenOf pd_1 rfl) rfl (by show 2 * 0 + _ ≤ _; exact Nat.le_of_eq rfl) (hb hby d4_1) (fun _ _ => ⟨rfl, e0, (by decide : 0 + 0 ≤ _), (by decide : 0 + 0 ≤ _)⟩)
  dsimp only [Pt.U, Pt.locs, Pt.cells, Pt.slots] at X1 l1 y1 z1 st1 hQ1
  subst l1 y1 z1
  obtain ⟨h1, e1⟩ : ∃ z, T1.heap = z := ⟨_, rfl⟩
  rw [e1] at hQ1
  obtain ⟨rfl, N1q, hh1⟩ := hQ1
  have N2 := Fr.app N0 N1q
  have e1' : T1.heap = h0 := e1.trans hh1
  obtain ⟨T3, h3, k3, X3, e3, E3, A3, Z3, st3⟩ := newPE X1 hx hZ (own_w hw 19 rfl) e1' (g := (mkF m 4 #[lvI (2 : Int32)] [(.int (4 : Int32))])) rfl (hb hby d4_4) rfl (by decide) (cap := 4) (by decide) (by decide) (by decide) (by decide) (ad := "[B") (by decide)
  obtain ⟨b3, g3⟩ : ∃ z, z = h0.size := ⟨_, rfl⟩
  rw [← g3] at A3 Z3 st3
  have ge4 : n0 ≤ b3 := Nat.le_trans (Nat.le_trans (Nat.le_of_eq O0.1.symm) O0.2.1) (Nat.le_of_eq g3.symm)
  have sz5 : h0.size ≤ b3 := Nat.le_trans K0.1 (Nat.le_of_eq g3.symm)
  have f6 : Arv Z h3 b3 k3 .byte (4 : Int32) [(.int (0 : Int32)), (.int (0 : Int32)), (.int (0 : Int32)), (.int (0 : Int32))] (.int (0 : Int32)) := (Arv.new A3 (by decide)).pad (pad_rep [] (.int (0 : Int32)) 4)
  have pre7 : ∀ t, own_S p e below m T3 6 #[lvI (2 : Int32)] [(.ref b3)] t → G t := by
    intro t kt
    refine pre0 t ?_
    show own_S p e below m s₁ 0 #[lvI (2 : Int32)] [] _
    refine XS.iloadN X0.here hx rfl (hb hby d4_0) rfl ?_
    show own_S p e below m s₁ 1 #[lvI (2 : Int32)] [(.int (2 : Int32))] _
    refine st1 _ ?_
    show own_S p e below m T1 4 #[lvI (2 : Int32)] [(.int (4 : Int32))] _
    refine st3 _ ?_
    exact kt
  have f9 : Keep h0 h3 [] := K0.ext E3
  obtain ⟨fs, hr, hrun, hended, hW, hsame⟩ := X3.leave (v := some (.ref b3)) (fun h => by rw [Bd.returns] at h; cases h)
  refine ⟨_, _, hG _ (pre7 _ (retOut X3 hx Bd.returns rfl (Or.inr (Or.inr (Or.inr (Or.inr ⟨rfl, rfl, rfl⟩)))) (hb hby d4_6) hr)), hrun, hended, _, _, rfl, ?_, ⟨_, rfl⟩, hW, hsame.mono (by decide) (by decide)⟩
  show QnewBytesFor12 Z  h0 n0 _ T3.heap _
  rw [e3]
  exact ⟨k3, b3, rfl, N2, f9, sz5, f6, Z3⟩
theorem efputChar17 (m : MethodId) (o0_ : Addr) (x0_ : Int32) : entryFrame m #[(.ref o0_), (.int (0 : Int32)), (.int x0_)] 3 = mkF m 0 #[lvR o0_, lvI (0 : Int32), lvI x0_] [] := by first | (simp [entryFrame, mkF, argsToLocals, Value.category]; done) | rfl
def QputChar17 (Z : State) (o0_ : Addr) (x0_ : Int32) (ko0_ : ClassId) (h0 : Heap) (n0 : Nat) (v : Option Value) (h : Heap) (L : List Loc) : Prop := v = none ∧ Fr n0 L ∧ Keep h0 h [o0_] ∧ Arv Z h o0_ ko0_ .byte (4 : Int32) [(.int ((x0_ >>> ((0 : Int32) &&& 31)).toInt8.toInt32)), (.int ((x0_ >>> ((8 : Int32) &&& 31)).toInt8.toInt32)), (.int (0 : Int32)), (.int (0 : Int32))] (.int (0 : Int32)) ∧ Exa Z h o0_ "[B"
set_option maxRecDepth 65536 in
set_option maxHeartbeats 40000000 in
theorem rmputChar17 (l : Launch) (Z : State) (a0 : Array Value) (hw : ∀ d ∈ tables_1, d.before a0 Z = true) (ws : List Jvm.Cond) (o0_ : Addr) (x0_ : Int32) (ko0_ : ClassId) (h0 : Heap) (n0 : Nat) (O0 : Old Z n0 h0) (P0 : Arv Z h0 o0_ ko0_ .byte (4 : Int32) [(.int (0 : Int32)), (.int (0 : Int32)), (.int (0 : Int32)), (.int (0 : Int32))] (.int (0 : Int32))) (P1 : Exa Z h0 o0_ "[B") (P2 : Sta Z Z.heap "java/lang/StringUTF16" "$assertionsDisabled" "Z" (.int (1 : Int32))) (P3 : Sta Z Z.heap "java/lang/StringUTF16" "HI_BYTE_SHIFT" "I" (.int (0 : Int32))) (P4 : n0 ≤ o0_) (P5 : Sta Z Z.heap "java/lang/StringUTF16" "LO_BYTE_SHIFT" "I" (.int (8 : Int32))) :
    MetFree l (⟨"java/lang/StringUTF16", "putChar", "([BII)V"⟩ : MethodName) (head1 (Jvm.Cond.code (⟨"java/lang/StringUTF16", "putChar", "([BII)V"⟩ : MethodName) jdk_52_method_4_code 3 none :: ws) ({ frames := 0, cells := 0, slots := 0, locals := 0 } : Room)) (fun a U => a = #[(.ref o0_), (.int (0 : Int32)), (.int x0_)] ∧ Z.Warmed39 U.vm ∧ U.heap = h0) (fun _ _ _ _ _ => True) (fun _ U o U' => ∃ v L, o = .returned v ∧ QputChar17 Z o0_ x0_ ko0_ h0 n0 v U'.heap L ∧ FrameEnd U o U' L ({ frames := 0, cells := 0, slots := 0, locals := 0 } : Room).cells ({ frames := 0, cells := 0, slots := 0, locals := 0 } : Room).slots) := by
  refine MetFree.of_bodySF (plainFor_of_name pn_0) hisR ?_
  intro p e s m args below meth c s₁ Bd hml0 hP hK
  obtain ⟨rfl, hZ, hh⟩ := hP
  have hx := Bd.exec
  have hby := Bd.bytes
  have hml : c.maxLocals = 3 := hml0
  have hown : s.vm.findClass "java/lang/StringUTF16" = some m.cls := findClass_of_methodNamed Bd.named
  have hnm := (name_of_methodNamed Bd.named Bd.method).1
  have X0 : Stand p l e ({ frames := 0, cells := 0, slots := 0, locals := 0 } : Room) s m #[(.ref o0_), (.int (0 : Int32)), (.int x0_)] below meth c s₁ [] 0 0 := Stand.of_body Bd
  have e0 : s₁.heap = h0 := by rw [← hh, Bd.state]; rfl
  have N0 := Fr.nil n0
  obtain ⟨G, pre0, hG⟩ : ∃ G : State → Prop, (∀ t, own_S p e below m s₁ 0 #[lvR o0_, lvI (0 : Int32), lvI x0_] [] t → G t) ∧ (∀ t, G t → Steps p.tables e below (s₁.setTop (entryFrame m #[(.ref o0_), (.int (0 : Int32)), (.int x0_)] 3)) t) := ⟨fun t => Steps p.tables e below (s₁.setTop (entryFrame m #[(.ref o0_), (.int (0 : Int32)), (.int x0_)] 3)) t, fun t k => castTop (efputChar17 m o0_ x0_) k, fun _ k => k⟩
  have K0 : Keep h0 h0 [o0_] := Keep.refl _ _
  obtain ⟨T1, X1, e1, st1⟩ := getS2 X0 hx hZ hown (host := "") (Or.inl (own_w hw 59 rfl)) Via.refl e0 (P2.ext O0.2) (g := (mkF m 0 #[lvR o0_, lvI (0 : Int32), lvI x0_] [])) rfl (hb hby d6_0)
  obtain ⟨T2, X2, e2, st2⟩ := getS2 X1 hx hZ hown (host := "") (Or.inl (own_w hw 60 rfl)) Via.refl e1 (P3.ext O0.2) (g := (mkF m 38 #[lvR o0_, lvI (1 : Int32), lvI x0_] [(.int x0_), (.int (0 : Int32)), (.ref o0_)])) rfl (hb hby d6_38)
  obtain ⟨c3, r3, q3, s3, z3, y3, G3⟩ := id P0
  have hin3 : ¬ ((0 : Int32) < 0 ∨ c3.slots.size ≤ ((0 : Int32)).toNatClampNeg) := inb_of s3 ⟨by decide, by decide⟩
  obtain ⟨T3, h3, X3, e3, W3, st3⟩ := stB X2 hx hZ e2 r3 (j := (0 : Int32)) hin3 (g := (mkF m 43 #[lvR o0_, lvI (1 : Int32), lvI x0_] [(.int ((x0_ >>> ((0 : Int32) &&& 31)).toInt8.toInt32)), (.int (0 : Int32)), (.ref o0_)])) rfl rfl (hb hby d6_43)
  have N4 := Fr.snoc X3 N0 P4
  have f5 : Arv Z h3 o0_ ko0_ .byte (4 : Int32) [(.int (((x0_ >>> ((0 : Int32) &&& 31)).toInt8.toInt32).toInt8.toInt32)), (.int (0 : Int32)), (.int (0 : Int32)), (.int (0 : Int32))] (.int (0 : Int32)) := Arv.set r3 q3 s3 z3 y3 G3 (fits_nar_byte _) W3 0 rfl (Nat.le_of_ble_eq_true rfl)
  have f6 : Arv Z h3 o0_ ko0_ .byte (4 : Int32) [(.int ((x0_ >>> ((0 : Int32) &&& 31)).toInt8.toInt32)), (.int (0 : Int32)), (.int (0 : Int32)), (.int (0 : Int32))] (.int (0 : Int32)) := by have q := f5; rw [own_i2b2] at q; exact q
  have f7 : Old Z n0 h3 := O0.wr W3 P4
  obtain ⟨T8, X8, e8, st8⟩ := getS2 X3 hx hZ hown (host := "") (Or.inl (own_w hw 61 rfl)) Via.refl e3 (P5.ext f7.2) (g := (mkF m 47 #[lvR o0_, lvI (1 : Int32), lvI x0_] [(.int x0_), (.int (1 : Int32)), (.ref o0_)])) rfl (hb hby d6_47)
  obtain ⟨c9, r9, q9, s9, z9, y9, G9⟩ := id f6
  have hin9 : ¬ ((1 : Int32) < 0 ∨ c9.slots.size ≤ ((1 : Int32)).toNatClampNeg) := inb_of s9 ⟨by decide, by decide⟩
  obtain ⟨T9, h9, X9, e9, W9, st9⟩ := stB X8 hx hZ e8 r9 (j := (1 : Int32)) hin9 (g := (mkF m 52 #[lvR o0_, lvI (1 : Int32), lvI x0_] [(.int ((x0_ >>> ((8 : Int32) &&& 31)).toInt8.toInt32)), (.int (1 : Int32)), (.ref o0_)])) rfl rfl (hb hby d6_52)
  have N10 := Fr.snoc X9 N4 P4
  have f11 : Arv Z h9 o0_ ko0_ .byte (4 : Int32) [(.int ((x0_ >>> ((0 : Int32) &&& 31)).toInt8.toInt32)), (.int (((x0_ >>> ((8 : Int32) &&& 31)).toInt8.toInt32).toInt8.toInt32)), (.int (0 : Int32)), (.int (0 : Int32))] (.int (0 : Int32)) := Arv.set r9 q9 s9 z9 y9 G9 (fits_nar_byte _) W9 1 rfl (Nat.le_of_ble_eq_true rfl)
  have f12 : Arv Z h9 o0_ ko0_ .byte (4 : Int32) [(.int ((x0_ >>> ((0 : Int32) &&& 31)).toInt8.toInt32)), (.int ((x0_ >>> ((8 : Int32) &&& 31)).toInt8.toInt32)), (.int (0 : Int32)), (.int (0 : Int32))] (.int (0 : Int32)) := by have q := f11; rw [own_i2b2] at q; exact q
  have pre13 : ∀ t, own_S p e below m T9 53 #[lvR o0_, lvI (1 : Int32), lvI x0_] [] t → G t := by
    intro t kt
    refine pre0 t ?_
    show own_S p e below m s₁ 0 #[lvR o0_, lvI (0 : Int32), lvI x0_] [] _
    refine st1 _ ?_
    show own_S p e below m T1 3 #[lvR o0_, lvI (0 : Int32), lvI x0_] [(.int (1 : Int32))] _
    refine XS.ifYes X1.here hx rfl (pc0 := 3) (pc' := 28) rfl (hb hby d6_3) rfl ((if0 _ _).trans (feq (by decide : ¬ ((1 : Int32) = (0 : Int32)))).2) (by decide) (by decide) ?_
    refine XS.iloadN X1.here hx rfl (hb hby d6_28) rfl ?_
    refine XS.iconst X1.here hx rfl (hb hby d6_29) ?_
    show own_S p e below m T1 30 #[lvR o0_, lvI (0 : Int32), lvI x0_] [(.int (1 : Int32)), (.int (0 : Int32))] _
    refine XS.ishl X1.here hx rfl (hb hby d6_30) rfl ?_
    refine XS.istoreN X1.here hx rfl (hb hby d6_31) rfl (l' := #[lvR o0_, lvI (0 : Int32), lvI x0_]) rfl ?_
    refine XS.aloadN X1.here hx rfl (hb hby d6_32) rfl rfl ?_
    refine XS.iloadN X1.here hx rfl (hb hby d6_33) rfl ?_
    refine XS.iinc X1.here hx rfl (hb hby d6_34) rfl (l' := #[lvR o0_, lvI (1 : Int32), lvI x0_]) rfl ?_
    refine XS.iloadN X1.here hx rfl (hb hby d6_37) rfl ?_
    show own_S p e below m T1 38 #[lvR o0_, lvI (1 : Int32), lvI x0_] [(.int x0_), (.int (0 : Int32)), (.ref o0_)] _
    refine st2 _ ?_
    show own_S p e below m T2 41 #[lvR o0_, lvI (1 : Int32), lvI x0_] [(.int (0 : Int32)), (.int x0_), (.int (0 : Int32)), (.ref o0_)] _
    refine XS.ishr X2.here hx rfl (hb hby d6_41) rfl ?_
    show own_S p e below m T2 42 #[lvR o0_, lvI (1 : Int32), lvI x0_] [(.int (x0_ >>> ((0 : Int32) &&& 31))), (.int (0 : Int32)), (.ref o0_)] _
    refine XS.i2b X2.here hx rfl (hb hby d6_42) rfl ?_
    show own_S p e below m T2 43 #[lvR o0_, lvI (1 : Int32), lvI x0_] [(.int ((x0_ >>> ((0 : Int32) &&& 31)).toInt8.toInt32)), (.int (0 : Int32)), (.ref o0_)] _
    refine st3 _ ?_
    refine XS.aloadN X3.here hx rfl (hb hby d6_44) rfl rfl ?_
    refine XS.iloadN X3.here hx rfl (hb hby d6_45) rfl ?_
    refine XS.iloadN X3.here hx rfl (hb hby d6_46) rfl ?_
    show own_S p e below m T3 47 #[lvR o0_, lvI (1 : Int32), lvI x0_] [(.int x0_), (.int (1 : Int32)), (.ref o0_)] _
    refine st8 _ ?_
    show own_S p e below m T8 50 #[lvR o0_, lvI (1 : Int32), lvI x0_] [(.int (8 : Int32)), (.int x0_), (.int (1 : Int32)), (.ref o0_)] _
    refine XS.ishr X8.here hx rfl (hb hby d6_50) rfl ?_
    show own_S p e below m T8 51 #[lvR o0_, lvI (1 : Int32), lvI x0_] [(.int (x0_ >>> ((8 : Int32) &&& 31))), (.int (1 : Int32)), (.ref o0_)] _
    refine XS.i2b X8.here hx rfl (hb hby d6_51) rfl ?_
    show own_S p e below m T8 52 #[lvR o0_, lvI (1 : Int32), lvI x0_] [(.int ((x0_ >>> ((8 : Int32) &&& 31)).toInt8.toInt32)), (.int (1 : Int32)), (.ref o0_)] _
    refine st9 _ ?_
    exact kt
  have f15 : Keep h0 h3 [o0_] := K0.wr W3 (Or.inl (List.mem_of_getElem? (i := 0) rfl))
  have f16 : Keep h0 h9 [o0_] := f15.wr W9 (Or.inl (List.mem_of_getElem? (i := 0) rfl))
  have f17 : Exa Z h3 o0_ "[B" := P1.wr W3
  have f18 : Exa Z h9 o0_ "[B" := f17.wr W9
  obtain ⟨fs, hr, hrun, hended, hW, hsame⟩ := X9.leave (v := none) (fun _ => rfl)
  refine ⟨_, _, hG _ (pre13 _ (X9.returnOut hx Bd.returns (hb hby d6_53) hr)), hrun, hended, _, _, rfl, ?_, ⟨_, rfl⟩, hW, hsame.mono (by decide) (by decide)⟩
  show QputChar17 Z o0_ x0_ ko0_ h0 n0 _ T9.heap _
  rw [e9]
  exact ⟨rfl, N10, f16, f12, f18⟩
theorem efputChar18 (m : MethodId) (o0_ : Addr) (x0_ : Int32) : entryFrame m #[(.ref o0_), (.int (1 : Int32)), (.int x0_)] 3 = mkF m 0 #[lvR o0_, lvI (1 : Int32), lvI x0_] [] := by first | (simp [entryFrame, mkF, argsToLocals, Value.category]; done) | rfl
def QputChar18 (Z : State) (o0_ : Addr) (x0_ : Int32) (ko0_ : ClassId) (x1_ : Int32) (x2_ : Int32) (h0 : Heap) (n0 : Nat) (v : Option Value) (h : Heap) (L : List Loc) : Prop := v = none ∧ Fr n0 L ∧ Keep h0 h [o0_] ∧ Arv Z h o0_ ko0_ .byte (4 : Int32) [(.int x1_), (.int x2_), (.int ((x0_ >>> ((0 : Int32) &&& 31)).toInt8.toInt32)), (.int ((x0_ >>> ((8 : Int32) &&& 31)).toInt8.toInt32))] (.int (0 : Int32)) ∧ Exa Z h o0_ "[B"
set_option maxRecDepth 65536 in
set_option maxHeartbeats 40000000 in
theorem rmputChar18 (l : Launch) (Z : State) (a0 : Array Value) (hw : ∀ d ∈ tables_1, d.before a0 Z = true) (ws : List Jvm.Cond) (o0_ : Addr) (x0_ : Int32) (ko0_ : ClassId) (x1_ : Int32) (x2_ : Int32) (h0 : Heap) (n0 : Nat) (O0 : Old Z n0 h0) (P0 : Arv Z h0 o0_ ko0_ .byte (4 : Int32) [(.int x1_), (.int x2_), (.int (0 : Int32)), (.int (0 : Int32))] (.int (0 : Int32))) (P1 : Exa Z h0 o0_ "[B") (P2 : Sta Z Z.heap "java/lang/StringUTF16" "$assertionsDisabled" "Z" (.int (1 : Int32))) (P3 : Sta Z Z.heap "java/lang/StringUTF16" "HI_BYTE_SHIFT" "I" (.int (0 : Int32))) (P4 : n0 ≤ o0_) (P5 : Sta Z Z.heap "java/lang/StringUTF16" "LO_BYTE_SHIFT" "I" (.int (8 : Int32))) :
    MetFree l (⟨"java/lang/StringUTF16", "putChar", "([BII)V"⟩ : MethodName) (head1 (Jvm.Cond.code (⟨"java/lang/StringUTF16", "putChar", "([BII)V"⟩ : MethodName) jdk_52_method_4_code 3 none :: ws) ({ frames := 0, cells := 0, slots := 0, locals := 0 } : Room)) (fun a U => a = #[(.ref o0_), (.int (1 : Int32)), (.int x0_)] ∧ Z.Warmed39 U.vm ∧ U.heap = h0) (fun _ _ _ _ _ => True) (fun _ U o U' => ∃ v L, o = .returned v ∧ QputChar18 Z o0_ x0_ ko0_ x1_ x2_ h0 n0 v U'.heap L ∧ FrameEnd U o U' L ({ frames := 0, cells := 0, slots := 0, locals := 0 } : Room).cells ({ frames := 0, cells := 0, slots := 0, locals := 0 } : Room).slots) := by
  refine MetFree.of_bodySF (plainFor_of_name pn_0) hisR ?_
  intro p e s m args below meth c s₁ Bd hml0 hP hK
  obtain ⟨rfl, hZ, hh⟩ := hP
  have hx := Bd.exec
  have hby := Bd.bytes
  have hml : c.maxLocals = 3 := hml0
  have hown : s.vm.findClass "java/lang/StringUTF16" = some m.cls := findClass_of_methodNamed Bd.named
  have hnm := (name_of_methodNamed Bd.named Bd.method).1
  have X0 : Stand p l e ({ frames := 0, cells := 0, slots := 0, locals := 0 } : Room) s m #[(.ref o0_), (.int (1 : Int32)), (.int x0_)] below meth c s₁ [] 0 0 := Stand.of_body Bd
  have e0 : s₁.heap = h0 := by rw [← hh, Bd.state]; rfl
  have N0 := Fr.nil n0
  obtain ⟨G, pre0, hG⟩ : ∃ G : State → Prop, (∀ t, own_S p e below m s₁ 0 #[lvR o0_, lvI (1 : Int32), lvI x0_] [] t → G t) ∧ (∀ t, G t → Steps p.tables e below (s₁.setTop (entryFrame m #[(.ref o0_), (.int (1 : Int32)), (.int x0_)] 3)) t) := ⟨fun t => Steps p.tables e below (s₁.setTop (entryFrame m #[(.ref o0_), (.int (1 : Int32)), (.int x0_)] 3)) t, fun t k => castTop (efputChar18 m o0_ x0_) k, fun _ k => k⟩
  have K0 : Keep h0 h0 [o0_] := Keep.refl _ _
  obtain ⟨T1, X1, e1, st1⟩ := getS2 X0 hx hZ hown (host := "") (Or.inl (own_w hw 59 rfl)) Via.refl e0 (P2.ext O0.2) (g := (mkF m 0 #[lvR o0_, lvI (1 : Int32), lvI x0_] [])) rfl (hb hby d6_0)
  obtain ⟨T2, X2, e2, st2⟩ := getS2 X1 hx hZ hown (host := "") (Or.inl (own_w hw 60 rfl)) Via.refl e1 (P3.ext O0.2) (g := (mkF m 38 #[lvR o0_, lvI (3 : Int32), lvI x0_] [(.int x0_), (.int (2 : Int32)), (.ref o0_)])) rfl (hb hby d6_38)
  obtain ⟨c3, r3, q3, s3, z3, y3, G3⟩ := id P0
  have hin3 : ¬ ((2 : Int32) < 0 ∨ c3.slots.size ≤ ((2 : Int32)).toNatClampNeg) := inb_of s3 ⟨by decide, by decide⟩
  obtain ⟨T3, h3, X3, e3, W3, st3⟩ := stB X2 hx hZ e2 r3 (j := (2 : Int32)) hin3 (g := (mkF m 43 #[lvR o0_, lvI (3 : Int32), lvI x0_] [(.int ((x0_ >>> ((0 : Int32) &&& 31)).toInt8.toInt32)), (.int (2 : Int32)), (.ref o0_)])) rfl rfl (hb hby d6_43)
  have N4 := Fr.snoc X3 N0 P4
  have f5 : Arv Z h3 o0_ ko0_ .byte (4 : Int32) [(.int x1_), (.int x2_), (.int (((x0_ >>> ((0 : Int32) &&& 31)).toInt8.toInt32).toInt8.toInt32)), (.int (0 : Int32))] (.int (0 : Int32)) := Arv.set r3 q3 s3 z3 y3 G3 (fits_nar_byte _) W3 2 rfl (Nat.le_of_ble_eq_true rfl)
  have f6 : Arv Z h3 o0_ ko0_ .byte (4 : Int32) [(.int x1_), (.int x2_), (.int ((x0_ >>> ((0 : Int32) &&& 31)).toInt8.toInt32)), (.int (0 : Int32))] (.int (0 : Int32)) := by have q := f5; rw [own_i2b2] at q; exact q
  have f7 : Old Z n0 h3 := O0.wr W3 P4
  obtain ⟨T8, X8, e8, st8⟩ := getS2 X3 hx hZ hown (host := "") (Or.inl (own_w hw 61 rfl)) Via.refl e3 (P5.ext f7.2) (g := (mkF m 47 #[lvR o0_, lvI (3 : Int32), lvI x0_] [(.int x0_), (.int (3 : Int32)), (.ref o0_)])) rfl (hb hby d6_47)
  obtain ⟨c9, r9, q9, s9, z9, y9, G9⟩ := id f6
  have hin9 : ¬ ((3 : Int32) < 0 ∨ c9.slots.size ≤ ((3 : Int32)).toNatClampNeg) := inb_of s9 ⟨by decide, by decide⟩
  obtain ⟨T9, h9, X9, e9, W9, st9⟩ := stB X8 hx hZ e8 r9 (j := (3 : Int32)) hin9 (g := (mkF m 52 #[lvR o0_, lvI (3 : Int32), lvI x0_] [(.int ((x0_ >>> ((8 : Int32) &&& 31)).toInt8.toInt32)), (.int (3 : Int32)), (.ref o0_)])) rfl rfl (hb hby d6_52)
  have N10 := Fr.snoc X9 N4 P4
  have f11 : Arv Z h9 o0_ ko0_ .byte (4 : Int32) [(.int x1_), (.int x2_), (.int ((x0_ >>> ((0 : Int32) &&& 31)).toInt8.toInt32)), (.int (((x0_ >>> ((8 : Int32) &&& 31)).toInt8.toInt32).toInt8.toInt32))] (.int (0 : Int32)) := Arv.set r9 q9 s9 z9 y9 G9 (fits_nar_byte _) W9 3 rfl (Nat.le_of_ble_eq_true rfl)
  have f12 : Arv Z h9 o0_ ko0_ .byte (4 : Int32) [(.int x1_), (.int x2_), (.int ((x0_ >>> ((0 : Int32) &&& 31)).toInt8.toInt32)), (.int ((x0_ >>> ((8 : Int32) &&& 31)).toInt8.toInt32))] (.int (0 : Int32)) := by have q := f11; rw [own_i2b2] at q; exact q
  have pre13 : ∀ t, own_S p e below m T9 53 #[lvR o0_, lvI (3 : Int32), lvI x0_] [] t → G t := by
    intro t kt
    refine pre0 t ?_
    show own_S p e below m s₁ 0 #[lvR o0_, lvI (1 : Int32), lvI x0_] [] _
    refine st1 _ ?_
    show own_S p e below m T1 3 #[lvR o0_, lvI (1 : Int32), lvI x0_] [(.int (1 : Int32))] _
    refine XS.ifYes X1.here hx rfl (pc0 := 3) (pc' := 28) rfl (hb hby d6_3) rfl ((if0 _ _).trans (feq (by decide : ¬ ((1 : Int32) = (0 : Int32)))).2) (by decide) (by decide) ?_
    refine XS.iloadN X1.here hx rfl (hb hby d6_28) rfl ?_
    refine XS.iconst X1.here hx rfl (hb hby d6_29) ?_
    show own_S p e below m T1 30 #[lvR o0_, lvI (1 : Int32), lvI x0_] [(.int (1 : Int32)), (.int (1 : Int32))] _
    refine XS.ishl X1.here hx rfl (hb hby d6_30) rfl ?_
    refine XS.istoreN X1.here hx rfl (hb hby d6_31) rfl (l' := #[lvR o0_, lvI (2 : Int32), lvI x0_]) rfl ?_
    refine XS.aloadN X1.here hx rfl (hb hby d6_32) rfl rfl ?_
    refine XS.iloadN X1.here hx rfl (hb hby d6_33) rfl ?_
    refine XS.iinc X1.here hx rfl (hb hby d6_34) rfl (l' := #[lvR o0_, lvI (3 : Int32), lvI x0_]) rfl ?_
    refine XS.iloadN X1.here hx rfl (hb hby d6_37) rfl ?_
    show own_S p e below m T1 38 #[lvR o0_, lvI (3 : Int32), lvI x0_] [(.int x0_), (.int (2 : Int32)), (.ref o0_)] _
    refine st2 _ ?_
    show own_S p e below m T2 41 #[lvR o0_, lvI (3 : Int32), lvI x0_] [(.int (0 : Int32)), (.int x0_), (.int (2 : Int32)), (.ref o0_)] _
    refine XS.ishr X2.here hx rfl (hb hby d6_41) rfl ?_
    show own_S p e below m T2 42 #[lvR o0_, lvI (3 : Int32), lvI x0_] [(.int (x0_ >>> ((0 : Int32) &&& 31))), (.int (2 : Int32)), (.ref o0_)] _
    refine XS.i2b X2.here hx rfl (hb hby d6_42) rfl ?_
    show own_S p e below m T2 43 #[lvR o0_, lvI (3 : Int32), lvI x0_] [(.int ((x0_ >>> ((0 : Int32) &&& 31)).toInt8.toInt32)), (.int (2 : Int32)), (.ref o0_)] _
    refine st3 _ ?_
    refine XS.aloadN X3.here hx rfl (hb hby d6_44) rfl rfl ?_
    refine XS.iloadN X3.here hx rfl (hb hby d6_45) rfl ?_
    refine XS.iloadN X3.here hx rfl (hb hby d6_46) rfl ?_
    show own_S p e below m T3 47 #[lvR o0_, lvI (3 : Int32), lvI x0_] [(.int x0_), (.int (3 : Int32)), (.ref o0_)] _
    refine st8 _ ?_
    show own_S p e below m T8 50 #[lvR o0_, lvI (3 : Int32), lvI x0_] [(.int (8 : Int32)), (.int x0_), (.int (3 : Int32)), (.ref o0_)] _
    refine XS.ishr X8.here hx rfl (hb hby d6_50) rfl ?_
    show own_S p e below m T8 51 #[lvR o0_, lvI (3 : Int32), lvI x0_] [(.int (x0_ >>> ((8 : Int32) &&& 31))), (.int (3 : Int32)), (.ref o0_)] _
    refine XS.i2b X8.here hx rfl (hb hby d6_51) rfl ?_
    show own_S p e below m T8 52 #[lvR o0_, lvI (3 : Int32), lvI x0_] [(.int ((x0_ >>> ((8 : Int32) &&& 31)).toInt8.toInt32)), (.int (3 : Int32)), (.ref o0_)] _
    refine st9 _ ?_
    exact kt
  have f15 : Keep h0 h3 [o0_] := K0.wr W3 (Or.inl (List.mem_of_getElem? (i := 0) rfl))
  have f16 : Keep h0 h9 [o0_] := f15.wr W9 (Or.inl (List.mem_of_getElem? (i := 0) rfl))
  have f17 : Exa Z h3 o0_ "[B" := P1.wr W3
  have f18 : Exa Z h9 o0_ "[B" := f17.wr W9
  obtain ⟨fs, hr, hrun, hended, hW, hsame⟩ := X9.leave (v := none) (fun _ => rfl)
  refine ⟨_, _, hG _ (pre13 _ (X9.returnOut hx Bd.returns (hb hby d6_53) hr)), hrun, hended, _, _, rfl, ?_, ⟨_, rfl⟩, hW, hsame.mono (by decide) (by decide)⟩
  show QputChar18 Z o0_ x0_ ko0_ x1_ x2_ h0 n0 _ T9.heap _
  rw [e9]
  exact ⟨rfl, N10, f16, f12, f18⟩
theorem eftoBytes11 (m : MethodId) (o0_ : Addr) : entryFrame m #[(.ref o0_), (.int (0 : Int32)), (.int (2 : Int32))] 5 = mkF m 0 #[lvR o0_, lvI (0 : Int32), lvI (2 : Int32), .unset, .unset] [] := by first | (simp [entryFrame, mkF, argsToLocals, Value.category]; done) | rfl
def QtoBytes11 (Z : State) (o0_ : Addr) (ko0_ : ClassId) (x0_ : Int32) (x1_ : Int32) (h0 : Heap) (n0 : Nat) (v : Option Value) (h : Heap) (L : List Loc) : Prop := ∃ k3_1 : ClassId, ∃ nnb3_1 : Addr, v = some (.ref nnb3_1) ∧ Fr n0 L ∧ Keep h0 h [] ∧ h0.size ≤ nnb3_1 ∧ Arv Z h nnb3_1 k3_1 .byte (4 : Int32) [(.int ((x0_ >>> ((0 : Int32) &&& 31)).toInt8.toInt32)), (.int ((x0_ >>> ((8 : Int32) &&& 31)).toInt8.toInt32)), (.int ((x1_ >>> ((0 : Int32) &&& 31)).toInt8.toInt32)), (.int ((x1_ >>> ((8 : Int32) &&& 31)).toInt8.toInt32))] (.int (0 : Int32)) ∧ Exa Z h nnb3_1 "[B"
set_option maxRecDepth 65536 in
set_option maxHeartbeats 40000000 in
theorem rmtoBytes11 (l : Launch) (Z : State) (a0 : Array Value) (hw : ∀ d ∈ tables_1, d.before a0 Z = true) (ws : List Jvm.Cond) (o0_ : Addr) (ko0_ : ClassId) (x0_ : Int32) (x1_ : Int32) (h0 : Heap) (n0 : Nat) (O0 : Old Z n0 h0) (P0 : Arv Z h0 o0_ ko0_ .char (2 : Int32) [(.int x0_), (.int x1_)] (.int (0 : Int32))) (P1 : Sta Z Z.heap "java/lang/StringUTF16" "$assertionsDisabled" "Z" (.int (1 : Int32))) (P2 : Sta Z Z.heap "java/lang/StringUTF16" "HI_BYTE_SHIFT" "I" (.int (0 : Int32))) (P3 : Sta Z Z.heap "java/lang/StringUTF16" "LO_BYTE_SHIFT" "I" (.int (8 : Int32))) :
    MetFree l (⟨"java/lang/StringUTF16", "toBytes", "([CII)[B"⟩ : MethodName) (head1 (Jvm.Cond.code (⟨"java/lang/StringUTF16", "toBytes", "([CII)[B"⟩ : MethodName) jdk_52_method_14_code 5 (some (.array .byte)) :: ws) ({ frames := 2, cells := 1, slots := 4, locals := 24 } : Room)) (fun a U => a = #[(.ref o0_), (.int (0 : Int32)), (.int (2 : Int32))] ∧ Z.Warmed39 U.vm ∧ U.heap = h0) (fun _ _ _ _ _ => True) (fun _ U o U' => ∃ v L, o = .returned v ∧ QtoBytes11 Z o0_ ko0_ x0_ x1_ h0 n0 v U'.heap L ∧ FrameEnd U o U' L ({ frames := 2, cells := 1, slots := 4, locals := 24 } : Room).cells ({ frames := 2, cells := 1, slots := 4, locals := 24 } : Room).slots) := by
  refine MetFree.of_bodySF (plainFor_of_name pn_0) hisR ?_
  intro p e s m args below meth c s₁ Bd hml0 hP hK
  obtain ⟨rfl, hZ, hh⟩ := hP
  have hx := Bd.exec
  have hby := Bd.bytes
  have hml : c.maxLocals = 5 := hml0
  have hown : s.vm.findClass "java/lang/StringUTF16" = some m.cls := findClass_of_methodNamed Bd.named
  have hnm := (name_of_methodNamed Bd.named Bd.method).1
  have X0 : Stand p l e ({ frames := 2, cells := 1, slots := 4, locals := 24 } : Room) s m #[(.ref o0_), (.int (0 : Int32)), (.int (2 : Int32))] below meth c s₁ [] 0 0 := Stand.of_body Bd
  have e0 : s₁.heap = h0 := by rw [← hh, Bd.state]; rfl
  have N0 := Fr.nil n0
  obtain ⟨G, pre0, hG⟩ : ∃ G : State → Prop, (∀ t, own_S p e below m s₁ 0 #[lvR o0_, lvI (0 : Int32), lvI (2 : Int32), .unset, .unset] [] t → G t) ∧ (∀ t, G t → Steps p.tables e below (s₁.setTop (entryFrame m #[(.ref o0_), (.int (0 : Int32)), (.int (2 : Int32))] 5)) t) := ⟨fun t => Steps p.tables e below (s₁.setTop (entryFrame m #[(.ref o0_), (.int (0 : Int32)), (.int (2 : Int32))] 5)) t, fun t k => castTop (eftoBytes11 m o0_) k, fun _ k => k⟩
  have K0 : Keep h0 h0 [] := Keep.refl _ _
  obtain ⟨_, _, ⟨T1, L1, k1, n1⟩, -, X1, ⟨Lc1, hQ1, l1, y1, z1⟩, st1⟩ := Jvm.LawKit.callS X0 hx (y := (⟨"java/lang/StringUTF16", "newBytesFor", "(I)[B"⟩ : MethodName)) hown (mvT hZ (own_w hw 49 rfl)) (mvT hZ (own_w hw 50 rfl)) (mvT hZ (own_w hw 17 rfl)) (mvT hZ (own_w hw 51 rfl)) (by decide) (backOf (W := 0) (rmnewBytesFor12 l Z a0 hw []  h0 n0 O0 ) hZ (own_w hw 51 rfl) (own_w hw 17 rfl) (by decide) (by decide)) (g := (mkF m 1 #[lvR o0_, lvI (0 : Int32), lvI (2 : Int32), .unset, .unset] [(.int (2 : Int32))])) rfl (by rw [hml]; rfl) (argsL := [(.int (2 : Int32))]) (rest := []) (lenOf pd_2 rfl) rfl (by show 2 * 0 + _ ≤ _; exact Nat.le_of_eq rfl) (hb hby d3_1) (fun _ _ => ⟨rfl, e0, (by decide : 0 + 1 ≤ _), (by decide : 0 + 4 ≤ _)⟩)
  dsimp only [Pt.U, Pt.locs, Pt.cells, Pt.slots] at X1 l1 y1 z1 st1 hQ1
  subst l1 y1 z1
  obtain ⟨h1, e1⟩ : ∃ z, T1.heap = z := ⟨_, rfl⟩
  rw [e1] at hQ1
  obtain ⟨k3_1, nb3_1, rfl, N1q, K1, sznb3_1, g1_0, g1_1⟩ := hQ1
  have N2 := Fr.app N0 N1q
  have ge3 : n0 ≤ nb3_1 := Nat.le_trans (Nat.le_trans (Nat.le_of_eq O0.1.symm) O0.2.1) sznb3_1
  have sz4 : h0.size ≤ nb3_1 := Nat.le_trans K0.1 sznb3_1
  have f5 : Arv Z h1 o0_ ko0_ .char (2 : Int32) [(.int x0_), (.int x1_)] (.int (0 : Int32)) := P0.keep K1 nin0
  obtain ⟨c6, r6, q6, s6, z6, y6, G6⟩ := id f5
  have hin6 : ¬ ((0 : Int32) < 0 ∨ c6.slots.size ≤ ((0 : Int32)).toNatClampNeg) := inb_of s6 ⟨by decide, by decide⟩
  have hat6 : c6.slots[((0 : Int32)).toNatClampNeg]? = some (.int x0_) := Has.at y6 hin6 rfl
  have f8 : Old Z n0 h1 := O0.keep K1 all0
  obtain ⟨_, _, ⟨T7, L7, k7, n7⟩, -, X7, ⟨Lc7, hQ7, l7, y7, z7⟩, st7⟩ := Jvm.LawKit.callS X1 hx (y := (⟨"java/lang/StringUTF16", "putChar", "([BII)V"⟩ : MethodName)) hown (mvT hZ (own_w hw 56 rfl)) (mvT hZ (own_w hw 57 rfl)) (mvT hZ (own_w hw 17 rfl)) (mvT hZ (own_w hw 58 rfl)) (by decide) (backOf (W := 0) (rmputChar17 l Z a0 hw [] nb3_1 x0_ k3_1 h1 n0 f8 g1_0 g1_1 P1 P2 ge3 P3) hZ (own_w hw 58 rfl) (own_w hw 17 rfl) (by decide) (by decide)) (g := (mkF m 20 #[lvR o0_, lvI (0 : Int32), lvI (2 : Int32), lvR nb3_1, lvI (0 : Int32)] [(.int x0_), (.int (0 : Int32)), (.ref nb3_1)])) rfl (by rw [hml]; rfl) (argsL := [(.ref nb3_1), (.int (0 : Int32)), (.int x0_)]) (rest := []) (lenOf pd_3 rfl) rfl (by show 2 * 0 + _ ≤ _; exact Nat.le_of_eq rfl) (hb hby d3_20) (fun _ _ => ⟨rfl, e1, (by decide : 1 + 0 ≤ _), (by decide : 4 + 0 ≤ _)⟩)
  dsimp only [Pt.U, Pt.locs, Pt.cells, Pt.slots] at X7 l7 y7 z7 st7 hQ7
  subst l7 y7 z7
  obtain ⟨h7, e7⟩ : ∃ z, T7.heap = z := ⟨_, rfl⟩
  rw [e7] at hQ7
  obtain ⟨rfl, N7q, K7, g7_0, g7_1⟩ := hQ7
  have N9 := Fr.app N2 N7q
  have ne11 : o0_ ≠ nb3_1 := Nat.ne_of_lt (Nat.lt_of_lt_of_le P0.lt sznb3_1)
  have f10 : Arv Z h7 o0_ ko0_ .char (2 : Int32) [(.int x0_), (.int x1_)] (.int (0 : Int32)) := f5.keep K7 (ninS ne11 nin0)
  obtain ⟨c12, r12, q12, s12, z12, y12, G12⟩ := id f10
  have hin12 : ¬ ((1 : Int32) < 0 ∨ c12.slots.size ≤ ((1 : Int32)).toNatClampNeg) := inb_of s12 ⟨by decide, by decide⟩
  have hat12 : c12.slots[((1 : Int32)).toNatClampNeg]? = some (.int x1_) := Has.at y12 hin12 rfl
  have f14 : Old Z n0 h7 := f8.keep K7 (allS (ge3) all0)
  obtain ⟨_, _, ⟨T13, L13, k13, n13⟩, -, X13, ⟨Lc13, hQ13, l13, y13, z13⟩, st13⟩ := Jvm.LawKit.callS X7 hx (y := (⟨"java/lang/StringUTF16", "putChar", "([BII)V"⟩ : MethodName)) hown (mvT hZ (own_w hw 56 rfl)) (mvT hZ (own_w hw 57 rfl)) (mvT hZ (own_w hw 17 rfl)) (mvT hZ (own_w hw 58 rfl)) (by decide) (backOf (W := 0) (rmputChar18 l Z a0 hw [] nb3_1 x1_ k3_1 ((x0_ >>> ((0 : Int32) &&& 31)).toInt8.toInt32) ((x0_ >>> ((8 : Int32) &&& 31)).toInt8.toInt32) h7 n0 f14 g7_0 g7_1 P1 P2 ge3 P3) hZ (own_w hw 58 rfl) (own_w hw 17 rfl) (by decide) (by decide)) (g := (mkF m 20 #[lvR o0_, lvI (1 : Int32), lvI (2 : Int32), lvR nb3_1, lvI (1 : Int32)] [(.int x1_), (.int (1 : Int32)), (.ref nb3_1)])) rfl (by rw [hml]; rfl) (argsL := [(.ref nb3_1), (.int (1 : Int32)), (.int x1_)]) (rest := []) (lenOf pd_3 rfl) rfl (by show 2 * 0 + _ ≤ _; exact Nat.le_of_eq rfl) (hb hby d3_20) (fun _ _ => ⟨rfl, e7, (by decide : 1 + 0 ≤ _), (by decide : 4 + 0 ≤ _)⟩)
  dsimp only [Pt.U, Pt.locs, Pt.cells, Pt.slots] at X13 l13 y13 z13 st13 hQ13
  subst l13 y13 z13
  obtain ⟨h13, e13⟩ : ∃ z, T13.heap = z := ⟨_, rfl⟩
  rw [e13] at hQ13
  obtain ⟨rfl, N13q, K13, g13_0, g13_1⟩ := hQ13
  have N15 := Fr.app N9 N13q
  have pre16 : ∀ t, own_S p e below m T13 33 #[lvR o0_, lvI (2 : Int32), lvI (2 : Int32), lvR nb3_1, lvI (2 : Int32)] [(.ref nb3_1)] t → G t := by
    intro t kt
    refine pre0 t ?_
    show own_S p e below m s₁ 0 #[lvR o0_, lvI (0 : Int32), lvI (2 : Int32), .unset, .unset] [] _
    refine XS.iloadN X0.here hx rfl (hb hby d3_0) rfl ?_
    show own_S p e below m s₁ 1 #[lvR o0_, lvI (0 : Int32), lvI (2 : Int32), .unset, .unset] [(.int (2 : Int32))] _
    refine st1 _ ?_
    refine XS.astoreN X1.here hx rfl (hb hby d3_4) rfl rfl (l' := #[lvR o0_, lvI (0 : Int32), lvI (2 : Int32), lvR nb3_1, .unset]) rfl ?_
    refine XS.iconst X1.here hx rfl (hb hby d3_5) ?_
    refine XS.istore X1.here hx rfl (hb hby d3_6) rfl (l' := #[lvR o0_, lvI (0 : Int32), lvI (2 : Int32), lvR nb3_1, lvI (0 : Int32)]) rfl ?_
    refine XS.iload X1.here hx rfl (hb hby d3_8) rfl ?_
    refine XS.iloadN X1.here hx rfl (hb hby d3_10) rfl ?_
    show own_S p e below m T1 11 #[lvR o0_, lvI (0 : Int32), lvI (2 : Int32), lvR nb3_1, lvI (0 : Int32)] [(.int (2 : Int32)), (.int (0 : Int32))] _
    refine XS.icmpNo X1.here hx rfl (hb hby d3_11) rfl (tlt (by decide : (0 : Int32) < (2 : Int32))).2.1 ?_
    refine XS.aloadN X1.here hx rfl (hb hby d3_14) rfl rfl ?_
    refine XS.iload X1.here hx rfl (hb hby d3_15) rfl ?_
    refine XS.aloadN X1.here hx rfl (hb hby d3_17) rfl rfl ?_
    refine XS.iloadN X1.here hx rfl (hb hby d3_18) rfl ?_
    show own_S p e below m T1 19 #[lvR o0_, lvI (0 : Int32), lvI (2 : Int32), lvR nb3_1, lvI (0 : Int32)] [(.int (0 : Int32)), (.ref o0_), (.int (0 : Int32)), (.ref nb3_1)] _
    refine X1.caload hx (j := (0 : Int32)) (v := (.int x0_)) (by rw [e1]; exact r6.1) (State.isArrayOf_alike hZ.alike r6.2.1) r6.2.2 hin6 hat6 (g := (mkF m 19 #[lvR o0_, lvI (0 : Int32), lvI (2 : Int32), lvR nb3_1, lvI (0 : Int32)] [(.int (0 : Int32)), (.ref o0_), (.int (0 : Int32)), (.ref nb3_1)])) rfl rfl (hb hby d3_19) _ ?_
    show own_S p e below m T1 20 #[lvR o0_, lvI (0 : Int32), lvI (2 : Int32), lvR nb3_1, lvI (0 : Int32)] [(.int x0_), (.int (0 : Int32)), (.ref nb3_1)] _
    refine st7 _ ?_
    refine XS.iinc X7.here hx rfl (hb hby d3_23) rfl (l' := #[lvR o0_, lvI (1 : Int32), lvI (2 : Int32), lvR nb3_1, lvI (0 : Int32)]) rfl ?_
    refine XS.iinc X7.here hx rfl (hb hby d3_26) rfl (l' := #[lvR o0_, lvI (1 : Int32), lvI (2 : Int32), lvR nb3_1, lvI (1 : Int32)]) rfl ?_
    refine XS.goto X7.here hx rfl (pc0 := 29) (pc' := 8) rfl (hb hby d3_29) (by decide) (by decide) ?_
    refine XS.iload X7.here hx rfl (hb hby d3_8) rfl ?_
    refine XS.iloadN X7.here hx rfl (hb hby d3_10) rfl ?_
    show own_S p e below m T7 11 #[lvR o0_, lvI (1 : Int32), lvI (2 : Int32), lvR nb3_1, lvI (1 : Int32)] [(.int (2 : Int32)), (.int (1 : Int32))] _
    refine XS.icmpNo X7.here hx rfl (hb hby d3_11) rfl (tlt (by decide : (1 : Int32) < (2 : Int32))).2.1 ?_
    refine XS.aloadN X7.here hx rfl (hb hby d3_14) rfl rfl ?_
    refine XS.iload X7.here hx rfl (hb hby d3_15) rfl ?_
    refine XS.aloadN X7.here hx rfl (hb hby d3_17) rfl rfl ?_
    refine XS.iloadN X7.here hx rfl (hb hby d3_18) rfl ?_
    show own_S p e below m T7 19 #[lvR o0_, lvI (1 : Int32), lvI (2 : Int32), lvR nb3_1, lvI (1 : Int32)] [(.int (1 : Int32)), (.ref o0_), (.int (1 : Int32)), (.ref nb3_1)] _
    refine X7.caload hx (j := (1 : Int32)) (v := (.int x1_)) (by rw [e7]; exact r12.1) (State.isArrayOf_alike hZ.alike r12.2.1) r12.2.2 hin12 hat12 (g := (mkF m 19 #[lvR o0_, lvI (1 : Int32), lvI (2 : Int32), lvR nb3_1, lvI (1 : Int32)] [(.int (1 : Int32)), (.ref o0_), (.int (1 : Int32)), (.ref nb3_1)])) rfl rfl (hb hby d3_19) _ ?_
    show own_S p e below m T7 20 #[lvR o0_, lvI (1 : Int32), lvI (2 : Int32), lvR nb3_1, lvI (1 : Int32)] [(.int x1_), (.int (1 : Int32)), (.ref nb3_1)] _
    refine st13 _ ?_
    refine XS.iinc X13.here hx rfl (hb hby d3_23) rfl (l' := #[lvR o0_, lvI (2 : Int32), lvI (2 : Int32), lvR nb3_1, lvI (1 : Int32)]) rfl ?_
    refine XS.iinc X13.here hx rfl (hb hby d3_26) rfl (l' := #[lvR o0_, lvI (2 : Int32), lvI (2 : Int32), lvR nb3_1, lvI (2 : Int32)]) rfl ?_
    refine XS.goto X13.here hx rfl (pc0 := 29) (pc' := 8) rfl (hb hby d3_29) (by decide) (by decide) ?_
    refine XS.iload X13.here hx rfl (hb hby d3_8) rfl ?_
    refine XS.iloadN X13.here hx rfl (hb hby d3_10) rfl ?_
    show own_S p e below m T13 11 #[lvR o0_, lvI (2 : Int32), lvI (2 : Int32), lvR nb3_1, lvI (2 : Int32)] [(.int (2 : Int32)), (.int (2 : Int32))] _
    refine XS.icmpYes X13.here hx rfl (pc0 := 11) (pc' := 32) rfl (hb hby d3_11) rfl (flt (by decide : ¬ ((2 : Int32) < (2 : Int32)))).2.1 (by decide) (by decide) ?_
    refine XS.aloadN X13.here hx rfl (hb hby d3_32) rfl rfl ?_
    exact kt
  have f18 : Keep h0 h1 [] := K0.trans K1 all0
  have f19 : Keep h0 h7 [] := f18.trans K7 (allS (Or.inr sz4) all0)
  have f20 : Keep h0 h13 [] := f19.trans K13 (allS (Or.inr sz4) all0)
  obtain ⟨fs, hr, hrun, hended, hW, hsame⟩ := X13.leave (v := some (.ref nb3_1)) (fun h => by rw [Bd.returns] at h; cases h)
  refine ⟨_, _, hG _ (pre16 _ (retOut X13 hx Bd.returns rfl (Or.inr (Or.inr (Or.inr (Or.inr ⟨rfl, rfl, rfl⟩)))) (hb hby d3_33) hr)), hrun, hended, _, _, rfl, ?_, ⟨_, rfl⟩, hW, hsame.mono (by decide) (by decide)⟩
  show QtoBytes11 Z o0_ ko0_ x0_ x1_ h0 n0 _ T13.heap _
  rw [e13]
  exact ⟨k3_1, nb3_1, rfl, N15, f20, sz4, g13_0, g13_1⟩
theorem efgetChar19 (m : MethodId) (o0_ : Addr) : entryFrame m #[(.ref o0_), (.int (0 : Int32))] 2 = mkF m 0 #[lvR o0_, lvI (0 : Int32)] [] := by first | (simp [entryFrame, mkF, argsToLocals, Value.category]; done) | rfl
def QgetChar19 (Z : State) (o0_ : Addr) (ko0_ : ClassId) (x0_ : Int32) (x1_ : Int32) (x2_ : Int32) (x3_ : Int32) (h0 : Heap) (n0 : Nat) (v : Option Value) (h : Heap) (L : List Loc) : Prop := v = some (.int ((((x0_ &&& (255 : Int32)) <<< ((0 : Int32) &&& 31)) ||| ((x1_ &&& (255 : Int32)) <<< ((8 : Int32) &&& 31))).toUInt32.toUInt16.toUInt32.toInt32)) ∧ Fr n0 L ∧ h = h0
set_option maxRecDepth 65536 in
set_option maxHeartbeats 40000000 in
theorem rmgetChar19 (l : Launch) (Z : State) (a0 : Array Value) (hw : ∀ d ∈ tables_1, d.before a0 Z = true) (ws : List Jvm.Cond) (o0_ : Addr) (ko0_ : ClassId) (x0_ : Int32) (x1_ : Int32) (x2_ : Int32) (x3_ : Int32) (h0 : Heap) (n0 : Nat) (O0 : Old Z n0 h0) (P0 : Arv Z h0 o0_ ko0_ .byte (4 : Int32) [(.int x0_), (.int x1_), (.int x2_), (.int x3_)] (.int (0 : Int32))) (P1 : Exa Z h0 o0_ "[B") (P2 : Sta Z Z.heap "java/lang/StringUTF16" "$assertionsDisabled" "Z" (.int (1 : Int32))) (P3 : Sta Z Z.heap "java/lang/StringUTF16" "HI_BYTE_SHIFT" "I" (.int (0 : Int32))) (P4 : Sta Z Z.heap "java/lang/StringUTF16" "LO_BYTE_SHIFT" "I" (.int (8 : Int32))) :
    MetFree l (⟨"java/lang/StringUTF16", "getChar", "([BI)C"⟩ : MethodName) (head1 (Jvm.Cond.code (⟨"java/lang/StringUTF16", "getChar", "([BI)C"⟩ : MethodName) jdk_52_method_5_code 2 (some .char) :: ws) ({ frames := 0, cells := 0, slots := 0, locals := 0 } : Room)) (fun a U => a = #[(.ref o0_), (.int (0 : Int32))] ∧ Z.Warmed39 U.vm ∧ U.heap = h0) (fun _ _ _ _ _ => True) (fun _ U o U' => ∃ v L, o = .returned v ∧ QgetChar19 Z o0_ ko0_ x0_ x1_ x2_ x3_ h0 n0 v U'.heap L ∧ FrameEnd U o U' L ({ frames := 0, cells := 0, slots := 0, locals := 0 } : Room).cells ({ frames := 0, cells := 0, slots := 0, locals := 0 } : Room).slots) := by
  refine MetFree.of_bodySF (plainFor_of_name pn_0) hisR ?_
  intro p e s m args below meth c s₁ Bd hml0 hP hK
  obtain ⟨rfl, hZ, hh⟩ := hP
  have hx := Bd.exec
  have hby := Bd.bytes
  have hml : c.maxLocals = 2 := hml0
  have hown : s.vm.findClass "java/lang/StringUTF16" = some m.cls := findClass_of_methodNamed Bd.named
  have hnm := (name_of_methodNamed Bd.named Bd.method).1
  have X0 : Stand p l e ({ frames := 0, cells := 0, slots := 0, locals := 0 } : Room) s m #[(.ref o0_), (.int (0 : Int32))] below meth c s₁ [] 0 0 := Stand.of_body Bd
  have e0 : s₁.heap = h0 := by rw [← hh, Bd.state]; rfl
  have N0 := Fr.nil n0
  obtain ⟨G, pre0, hG⟩ : ∃ G : State → Prop, (∀ t, own_S p e below m s₁ 0 #[lvR o0_, lvI (0 : Int32)] [] t → G t) ∧ (∀ t, G t → Steps p.tables e below (s₁.setTop (entryFrame m #[(.ref o0_), (.int (0 : Int32))] 2)) t) := ⟨fun t => Steps p.tables e below (s₁.setTop (entryFrame m #[(.ref o0_), (.int (0 : Int32))] 2)) t, fun t k => castTop (efgetChar19 m o0_) k, fun _ k => k⟩
  have K0 : Keep h0 h0 [] := Keep.refl _ _
  obtain ⟨T1, X1, e1, st1⟩ := getS2 X0 hx hZ hown (host := "") (Or.inl (own_w hw 59 rfl)) Via.refl e0 (P2.ext O0.2) (g := (mkF m 0 #[lvR o0_, lvI (0 : Int32)] [])) rfl (hb hby d7_0)
  obtain ⟨c2, r2, q2, s2, z2, y2, G2⟩ := id P0
  have hin2 : ¬ ((0 : Int32) < 0 ∨ c2.slots.size ≤ ((0 : Int32)).toNatClampNeg) := inb_of s2 ⟨by decide, by decide⟩
  have hat2 : c2.slots[((0 : Int32)).toNatClampNeg]? = some (.int x0_) := Has.at y2 hin2 rfl
  obtain ⟨T3, X3, e3, st3⟩ := getS2 X1 hx hZ hown (host := "") (Or.inl (own_w hw 60 rfl)) Via.refl e1 (P3.ext O0.2) (g := (mkF m 42 #[lvR o0_, lvI (1 : Int32)] [(.int (x0_ &&& (255 : Int32)))])) rfl (hb hby d7_42)
  obtain ⟨c4, r4, q4, s4, z4, y4, G4⟩ := id P0
  have hin4 : ¬ ((1 : Int32) < 0 ∨ c4.slots.size ≤ ((1 : Int32)).toNatClampNeg) := inb_of s4 ⟨by decide, by decide⟩
  have hat4 : c4.slots[((1 : Int32)).toNatClampNeg]? = some (.int x1_) := Has.at y4 hin4 rfl
  obtain ⟨T5, X5, e5, st5⟩ := getS2 X3 hx hZ hown (host := "") (Or.inl (own_w hw 61 rfl)) Via.refl e3 (P4.ext O0.2) (g := (mkF m 53 #[lvR o0_, lvI (1 : Int32)] [(.int (x1_ &&& (255 : Int32))), (.int ((x0_ &&& (255 : Int32)) <<< ((0 : Int32) &&& 31)))])) rfl (hb hby d7_53)
  have pre6 : ∀ t, own_S p e below m T5 59 #[lvR o0_, lvI (1 : Int32)] [(.int ((((x0_ &&& (255 : Int32)) <<< ((0 : Int32) &&& 31)) ||| ((x1_ &&& (255 : Int32)) <<< ((8 : Int32) &&& 31))).toUInt32.toUInt16.toUInt32.toInt32))] t → G t := by
    intro t kt
    refine pre0 t ?_
    show own_S p e below m s₁ 0 #[lvR o0_, lvI (0 : Int32)] [] _
    refine st1 _ ?_
    show own_S p e below m T1 3 #[lvR o0_, lvI (0 : Int32)] [(.int (1 : Int32))] _
    refine XS.ifYes X1.here hx rfl (pc0 := 3) (pc' := 28) rfl (hb hby d7_3) rfl ((if0 _ _).trans (feq (by decide : ¬ ((1 : Int32) = (0 : Int32)))).2) (by decide) (by decide) ?_
    refine XS.iloadN X1.here hx rfl (hb hby d7_28) rfl ?_
    refine XS.iconst X1.here hx rfl (hb hby d7_29) ?_
    show own_S p e below m T1 30 #[lvR o0_, lvI (0 : Int32)] [(.int (1 : Int32)), (.int (0 : Int32))] _
    refine XS.ishl X1.here hx rfl (hb hby d7_30) rfl ?_
    refine XS.istoreN X1.here hx rfl (hb hby d7_31) rfl (l' := #[lvR o0_, lvI (0 : Int32)]) rfl ?_
    refine XS.aloadN X1.here hx rfl (hb hby d7_32) rfl rfl ?_
    refine XS.iloadN X1.here hx rfl (hb hby d7_33) rfl ?_
    refine XS.iinc X1.here hx rfl (hb hby d7_34) rfl (l' := #[lvR o0_, lvI (1 : Int32)]) rfl ?_
    show own_S p e below m T1 37 #[lvR o0_, lvI (1 : Int32)] [(.int (0 : Int32)), (.ref o0_)] _
    refine X1.baloadBytes hx (j := (0 : Int32)) (v := (.int x0_)) (by rw [e1]; exact r2.1) (State.isArrayOf_alike hZ.alike r2.2.1) r2.2.2 hin2 hat2 (g := (mkF m 37 #[lvR o0_, lvI (1 : Int32)] [(.int (0 : Int32)), (.ref o0_)])) rfl rfl (hb hby d7_37) _ ?_
    refine XS.sipush X1.here hx rfl (hb hby d7_38) ?_
    refine XS.iand X1.here hx rfl (hb hby d7_41) rfl ?_
    show own_S p e below m T1 42 #[lvR o0_, lvI (1 : Int32)] [(.int (x0_ &&& (255 : Int32)))] _
    refine st3 _ ?_
    show own_S p e below m T3 45 #[lvR o0_, lvI (1 : Int32)] [(.int (0 : Int32)), (.int (x0_ &&& (255 : Int32)))] _
    refine XS.ishl X3.here hx rfl (hb hby d7_45) rfl ?_
    refine XS.aloadN X3.here hx rfl (hb hby d7_46) rfl rfl ?_
    refine XS.iloadN X3.here hx rfl (hb hby d7_47) rfl ?_
    show own_S p e below m T3 48 #[lvR o0_, lvI (1 : Int32)] [(.int (1 : Int32)), (.ref o0_), (.int ((x0_ &&& (255 : Int32)) <<< ((0 : Int32) &&& 31)))] _
    refine X3.baloadBytes hx (j := (1 : Int32)) (v := (.int x1_)) (by rw [e3]; exact r4.1) (State.isArrayOf_alike hZ.alike r4.2.1) r4.2.2 hin4 hat4 (g := (mkF m 48 #[lvR o0_, lvI (1 : Int32)] [(.int (1 : Int32)), (.ref o0_), (.int ((x0_ &&& (255 : Int32)) <<< ((0 : Int32) &&& 31)))])) rfl rfl (hb hby d7_48) _ ?_
    refine XS.sipush X3.here hx rfl (hb hby d7_49) ?_
    refine XS.iand X3.here hx rfl (hb hby d7_52) rfl ?_
    show own_S p e below m T3 53 #[lvR o0_, lvI (1 : Int32)] [(.int (x1_ &&& (255 : Int32))), (.int ((x0_ &&& (255 : Int32)) <<< ((0 : Int32) &&& 31)))] _
    refine st5 _ ?_
    show own_S p e below m T5 56 #[lvR o0_, lvI (1 : Int32)] [(.int (8 : Int32)), (.int (x1_ &&& (255 : Int32))), (.int ((x0_ &&& (255 : Int32)) <<< ((0 : Int32) &&& 31)))] _
    refine XS.ishl X5.here hx rfl (hb hby d7_56) rfl ?_
    show own_S p e below m T5 57 #[lvR o0_, lvI (1 : Int32)] [(.int ((x1_ &&& (255 : Int32)) <<< ((8 : Int32) &&& 31))), (.int ((x0_ &&& (255 : Int32)) <<< ((0 : Int32) &&& 31)))] _
    refine XS.ior X5.here hx rfl (hb hby d7_57) rfl ?_
    show own_S p e below m T5 58 #[lvR o0_, lvI (1 : Int32)] [(.int (((x0_ &&& (255 : Int32)) <<< ((0 : Int32) &&& 31)) ||| ((x1_ &&& (255 : Int32)) <<< ((8 : Int32) &&& 31))))] _
    refine XS.i2c X5.here hx rfl (hb hby d7_58) rfl ?_
    exact kt
  obtain ⟨fs, hr, hrun, hended, hW, hsame⟩ := X5.leave (v := some (.int (nar .char ((((x0_ &&& (255 : Int32)) <<< ((0 : Int32) &&& 31)) ||| ((x1_ &&& (255 : Int32)) <<< ((8 : Int32) &&& 31))).toUInt32.toUInt16.toUInt32.toInt32)))) (fun h => by rw [Bd.returns] at h; cases h)
  refine ⟨_, _, hG _ (pre6 _ (retN X5 hx (t := .char) Bd.returns (by simp) (hb hby d7_59) hr)), hrun, hended, _, _, rfl, ?_, ⟨_, rfl⟩, hW, hsame.mono (by decide) (by decide)⟩
  show QgetChar19 Z o0_ ko0_ x0_ x1_ x2_ x3_ h0 n0 _ T5.heap _
  rw [e5]
  exact ⟨(by rw [own_narc]), N0, rfl⟩
theorem efgetChar20 (m : MethodId) (o0_ : Addr) : entryFrame m #[(.ref o0_), (.int (1 : Int32))] 2 = mkF m 0 #[lvR o0_, lvI (1 : Int32)] [] := by first | (simp [entryFrame, mkF, argsToLocals, Value.category]; done) | rfl
def QgetChar20 (Z : State) (o0_ : Addr) (ko0_ : ClassId) (x0_ : Int32) (x1_ : Int32) (x2_ : Int32) (x3_ : Int32) (h0 : Heap) (n0 : Nat) (v : Option Value) (h : Heap) (L : List Loc) : Prop := v = some (.int ((((x2_ &&& (255 : Int32)) <<< ((0 : Int32) &&& 31)) ||| ((x3_ &&& (255 : Int32)) <<< ((8 : Int32) &&& 31))).toUInt32.toUInt16.toUInt32.toInt32)) ∧ Fr n0 L ∧ h = h0
set_option maxRecDepth 65536 in
set_option maxHeartbeats 40000000 in
theorem rmgetChar20 (l : Launch) (Z : State) (a0 : Array Value) (hw : ∀ d ∈ tables_1, d.before a0 Z = true) (ws : List Jvm.Cond) (o0_ : Addr) (ko0_ : ClassId) (x0_ : Int32) (x1_ : Int32) (x2_ : Int32) (x3_ : Int32) (h0 : Heap) (n0 : Nat) (O0 : Old Z n0 h0) (P0 : Arv Z h0 o0_ ko0_ .byte (4 : Int32) [(.int x0_), (.int x1_), (.int x2_), (.int x3_)] (.int (0 : Int32))) (P1 : Exa Z h0 o0_ "[B") (P2 : Sta Z Z.heap "java/lang/StringUTF16" "$assertionsDisabled" "Z" (.int (1 : Int32))) (P3 : Sta Z Z.heap "java/lang/StringUTF16" "HI_BYTE_SHIFT" "I" (.int (0 : Int32))) (P4 : Sta Z Z.heap "java/lang/StringUTF16" "LO_BYTE_SHIFT" "I" (.int (8 : Int32))) :
    MetFree l (⟨"java/lang/StringUTF16", "getChar", "([BI)C"⟩ : MethodName) (head1 (Jvm.Cond.code (⟨"java/lang/StringUTF16", "getChar", "([BI)C"⟩ : MethodName) jdk_52_method_5_code 2 (some .char) :: ws) ({ frames := 0, cells := 0, slots := 0, locals := 0 } : Room)) (fun a U => a = #[(.ref o0_), (.int (1 : Int32))] ∧ Z.Warmed39 U.vm ∧ U.heap = h0) (fun _ _ _ _ _ => True) (fun _ U o U' => ∃ v L, o = .returned v ∧ QgetChar20 Z o0_ ko0_ x0_ x1_ x2_ x3_ h0 n0 v U'.heap L ∧ FrameEnd U o U' L ({ frames := 0, cells := 0, slots := 0, locals := 0 } : Room).cells ({ frames := 0, cells := 0, slots := 0, locals := 0 } : Room).slots) := by
  refine MetFree.of_bodySF (plainFor_of_name pn_0) hisR ?_
  intro p e s m args below meth c s₁ Bd hml0 hP hK
  obtain ⟨rfl, hZ, hh⟩ := hP
  have hx := Bd.exec
  have hby := Bd.bytes
  have hml : c.maxLocals = 2 := hml0
  have hown : s.vm.findClass "java/lang/StringUTF16" = some m.cls := findClass_of_methodNamed Bd.named
  have hnm := (name_of_methodNamed Bd.named Bd.method).1
  have X0 : Stand p l e ({ frames := 0, cells := 0, slots := 0, locals := 0 } : Room) s m #[(.ref o0_), (.int (1 : Int32))] below meth c s₁ [] 0 0 := Stand.of_body Bd
  have e0 : s₁.heap = h0 := by rw [← hh, Bd.state]; rfl
  have N0 := Fr.nil n0
  obtain ⟨G, pre0, hG⟩ : ∃ G : State → Prop, (∀ t, own_S p e below m s₁ 0 #[lvR o0_, lvI (1 : Int32)] [] t → G t) ∧ (∀ t, G t → Steps p.tables e below (s₁.setTop (entryFrame m #[(.ref o0_), (.int (1 : Int32))] 2)) t) := ⟨fun t => Steps p.tables e below (s₁.setTop (entryFrame m #[(.ref o0_), (.int (1 : Int32))] 2)) t, fun t k => castTop (efgetChar20 m o0_) k, fun _ k => k⟩
  have K0 : Keep h0 h0 [] := Keep.refl _ _
  obtain ⟨T1, X1, e1, st1⟩ := getS2 X0 hx hZ hown (host := "") (Or.inl (own_w hw 59 rfl)) Via.refl e0 (P2.ext O0.2) (g := (mkF m 0 #[lvR o0_, lvI (1 : Int32)] [])) rfl (hb hby d7_0)
  obtain ⟨c2, r2, q2, s2, z2, y2, G2⟩ := id P0
  have hin2 : ¬ ((2 : Int32) < 0 ∨ c2.slots.size ≤ ((2 : Int32)).toNatClampNeg) := inb_of s2 ⟨by decide, by decide⟩
  have hat2 : c2.slots[((2 : Int32)).toNatClampNeg]? = some (.int x2_) := Has.at y2 hin2 rfl
  obtain ⟨T3, X3, e3, st3⟩ := getS2 X1 hx hZ hown (host := "") (Or.inl (own_w hw 60 rfl)) Via.refl e1 (P3.ext O0.2) (g := (mkF m 42 #[lvR o0_, lvI (3 : Int32)] [(.int (x2_ &&& (255 : Int32)))])) rfl (hb hby d7_42)
  obtain ⟨c4, r4, q4, s4, z4, y4, G4⟩ := id P0
  have hin4 : ¬ ((3 : Int32) < 0 ∨ c4.slots.size ≤ ((3 : Int32)).toNatClampNeg) := inb_of s4 ⟨by decide, by decide⟩
  have hat4 : c4.slots[((3 : Int32)).toNatClampNeg]? = some (.int x3_) := Has.at y4 hin4 rfl
  obtain ⟨T5, X5, e5, st5⟩ := getS2 X3 hx hZ hown (host := "") (Or.inl (own_w hw 61 rfl)) Via.refl e3 (P4.ext O0.2) (g := (mkF m 53 #[lvR o0_, lvI (3 : Int32)] [(.int (x3_ &&& (255 : Int32))), (.int ((x2_ &&& (255 : Int32)) <<< ((0 : Int32) &&& 31)))])) rfl (hb hby d7_53)
  have pre6 : ∀ t, own_S p e below m T5 59 #[lvR o0_, lvI (3 : Int32)] [(.int ((((x2_ &&& (255 : Int32)) <<< ((0 : Int32) &&& 31)) ||| ((x3_ &&& (255 : Int32)) <<< ((8 : Int32) &&& 31))).toUInt32.toUInt16.toUInt32.toInt32))] t → G t := by
    intro t kt
    refine pre0 t ?_
    show own_S p e below m s₁ 0 #[lvR o0_, lvI (1 : Int32)] [] _
    refine st1 _ ?_
    show own_S p e below m T1 3 #[lvR o0_, lvI (1 : Int32)] [(.int (1 : Int32))] _
    refine XS.ifYes X1.here hx rfl (pc0 := 3) (pc' := 28) rfl (hb hby d7_3) rfl ((if0 _ _).trans (feq (by decide : ¬ ((1 : Int32) = (0 : Int32)))).2) (by decide) (by decide) ?_
    refine XS.iloadN X1.here hx rfl (hb hby d7_28) rfl ?_
    refine XS.iconst X1.here hx rfl (hb hby d7_29) ?_
    show own_S p e below m T1 30 #[lvR o0_, lvI (1 : Int32)] [(.int (1 : Int32)), (.int (1 : Int32))] _
    refine XS.ishl X1.here hx rfl (hb hby d7_30) rfl ?_
    refine XS.istoreN X1.here hx rfl (hb hby d7_31) rfl (l' := #[lvR o0_, lvI (2 : Int32)]) rfl ?_
    refine XS.aloadN X1.here hx rfl (hb hby d7_32) rfl rfl ?_
    refine XS.iloadN X1.here hx rfl (hb hby d7_33) rfl ?_
    refine XS.iinc X1.here hx rfl (hb hby d7_34) rfl (l' := #[lvR o0_, lvI (3 : Int32)]) rfl ?_
    show own_S p e below m T1 37 #[lvR o0_, lvI (3 : Int32)] [(.int (2 : Int32)), (.ref o0_)] _
    refine X1.baloadBytes hx (j := (2 : Int32)) (v := (.int x2_)) (by rw [e1]; exact r2.1) (State.isArrayOf_alike hZ.alike r2.2.1) r2.2.2 hin2 hat2 (g := (mkF m 37 #[lvR o0_, lvI (3 : Int32)] [(.int (2 : Int32)), (.ref o0_)])) rfl rfl (hb hby d7_37) _ ?_
    refine XS.sipush X1.here hx rfl (hb hby d7_38) ?_
    refine XS.iand X1.here hx rfl (hb hby d7_41) rfl ?_
    show own_S p e below m T1 42 #[lvR o0_, lvI (3 : Int32)] [(.int (x2_ &&& (255 : Int32)))] _
    refine st3 _ ?_
    show own_S p e below m T3 45 #[lvR o0_, lvI (3 : Int32)] [(.int (0 : Int32)), (.int (x2_ &&& (255 : Int32)))] _
    refine XS.ishl X3.here hx rfl (hb hby d7_45) rfl ?_
    refine XS.aloadN X3.here hx rfl (hb hby d7_46) rfl rfl ?_
    refine XS.iloadN X3.here hx rfl (hb hby d7_47) rfl ?_
    show own_S p e below m T3 48 #[lvR o0_, lvI (3 : Int32)] [(.int (3 : Int32)), (.ref o0_), (.int ((x2_ &&& (255 : Int32)) <<< ((0 : Int32) &&& 31)))] _
    refine X3.baloadBytes hx (j := (3 : Int32)) (v := (.int x3_)) (by rw [e3]; exact r4.1) (State.isArrayOf_alike hZ.alike r4.2.1) r4.2.2 hin4 hat4 (g := (mkF m 48 #[lvR o0_, lvI (3 : Int32)] [(.int (3 : Int32)), (.ref o0_), (.int ((x2_ &&& (255 : Int32)) <<< ((0 : Int32) &&& 31)))])) rfl rfl (hb hby d7_48) _ ?_
    refine XS.sipush X3.here hx rfl (hb hby d7_49) ?_
    refine XS.iand X3.here hx rfl (hb hby d7_52) rfl ?_
    show own_S p e below m T3 53 #[lvR o0_, lvI (3 : Int32)] [(.int (x3_ &&& (255 : Int32))), (.int ((x2_ &&& (255 : Int32)) <<< ((0 : Int32) &&& 31)))] _
    refine st5 _ ?_
    show own_S p e below m T5 56 #[lvR o0_, lvI (3 : Int32)] [(.int (8 : Int32)), (.int (x3_ &&& (255 : Int32))), (.int ((x2_ &&& (255 : Int32)) <<< ((0 : Int32) &&& 31)))] _
    refine XS.ishl X5.here hx rfl (hb hby d7_56) rfl ?_
    show own_S p e below m T5 57 #[lvR o0_, lvI (3 : Int32)] [(.int ((x3_ &&& (255 : Int32)) <<< ((8 : Int32) &&& 31))), (.int ((x2_ &&& (255 : Int32)) <<< ((0 : Int32) &&& 31)))] _
    refine XS.ior X5.here hx rfl (hb hby d7_57) rfl ?_
    show own_S p e below m T5 58 #[lvR o0_, lvI (3 : Int32)] [(.int (((x2_ &&& (255 : Int32)) <<< ((0 : Int32) &&& 31)) ||| ((x3_ &&& (255 : Int32)) <<< ((8 : Int32) &&& 31))))] _
    refine XS.i2c X5.here hx rfl (hb hby d7_58) rfl ?_
    exact kt
  obtain ⟨fs, hr, hrun, hended, hW, hsame⟩ := X5.leave (v := some (.int (nar .char ((((x2_ &&& (255 : Int32)) <<< ((0 : Int32) &&& 31)) ||| ((x3_ &&& (255 : Int32)) <<< ((8 : Int32) &&& 31))).toUInt32.toUInt16.toUInt32.toInt32)))) (fun h => by rw [Bd.returns] at h; cases h)
  refine ⟨_, _, hG _ (pre6 _ (retN X5 hx (t := .char) Bd.returns (by simp) (hb hby d7_59) hr)), hrun, hended, _, _, rfl, ?_, ⟨_, rfl⟩, hW, hsame.mono (by decide) (by decide)⟩
  show QgetChar20 Z o0_ ko0_ x0_ x1_ x2_ x3_ h0 n0 _ T5.heap _
  rw [e5]
  exact ⟨(by rw [own_narc]), N0, rfl⟩
theorem efCq2 (m : MethodId) (sr_ : Addr) : entryFrame m #[(.ref sr_), (.int (0 : Int32)), (.int (2 : Int32))] 6 = mkF m 0 #[lvR sr_, lvI (0 : Int32), lvI (2 : Int32), .unset, .unset, .unset] [] := by first | (simp [entryFrame, mkF, argsToLocals, Value.category]; done) | rfl
def QCq2 (Z : State) (sr_ : Addr) (ks_ : ClassId) (x0_ : Int32) (x1_ : Int32) (w_COMPACT_STRINGS : Int32) (h0 : Heap) (n0 : Nat) (v : Option Value) (h : Heap) (L : List Loc) : Prop := ∃ k_w : ClassId, ∃ z_w : Int32, ∃ vs_w : List Value, ∃ nw_ : Addr, v = some (.ref nw_) ∧ Fr n0 L ∧ Keep h0 h [] ∧ h0.size ≤ nw_ ∧ Exa Z h nw_ "[B" ∧ Arv Z h nw_ k_w .byte z_w vs_w (.int (0 : Int32)) ∧ own_two (2 : Int32) z_w
set_option maxRecDepth 65536 in
set_option maxHeartbeats 40000000 in
theorem rmCq2 (l : Launch) (Z : State) (a0 : Array Value) (hw : ∀ d ∈ tables_1, d.before a0 Z = true) (ws : List Jvm.Cond) (sr_ : Addr) (ks_ : ClassId) (x0_ : Int32) (x1_ : Int32) (w_COMPACT_STRINGS : Int32) (h0 : Heap) (n0 : Nat) (O0 : Old Z n0 h0) (hc0_ : own_chr x0_) (hc1_ : own_chr x1_) (hz_0 : ¬ (w_COMPACT_STRINGS = (0 : Int32))) (P3 : Arv Z h0 sr_ ks_ .char (2 : Int32) [(.int x0_), (.int x1_)] (.int (0 : Int32))) (P4 : Sta Z Z.heap "java/lang/String" "COMPACT_STRINGS" "Z" (.int w_COMPACT_STRINGS)) (P5 : Sta Z Z.heap "java/lang/StringUTF16" "$assertionsDisabled" "Z" (.int (1 : Int32))) (P6 : Sta Z Z.heap "java/lang/StringUTF16" "HI_BYTE_SHIFT" "I" (.int (0 : Int32))) (P7 : Sta Z Z.heap "java/lang/StringUTF16" "LO_BYTE_SHIFT" "I" (.int (8 : Int32))) :
    MetFree l (⟨"java/lang/StringUTF16", "compress", "([CII)[B"⟩ : MethodName) (head1 (Jvm.Cond.code (⟨"java/lang/StringUTF16", "compress", "([CII)[B"⟩ : MethodName) jdk_52_method_16_code 6 (some (.array .byte)) :: ws) ({ frames := 3, cells := 2, slots := 6, locals := 40 } : Room)) (fun a U => a = #[(.ref sr_), (.int (0 : Int32)), (.int (2 : Int32))] ∧ Z.Warmed39 U.vm ∧ U.heap = h0) (fun _ _ _ _ _ => True) (fun _ U o U' => ∃ v L, o = .returned v ∧ QCq2 Z sr_ ks_ x0_ x1_ w_COMPACT_STRINGS h0 n0 v U'.heap L ∧ FrameEnd U o U' L ({ frames := 3, cells := 2, slots := 6, locals := 40 } : Room).cells ({ frames := 3, cells := 2, slots := 6, locals := 40 } : Room).slots) := by
  refine MetFree.of_bodySF (plainFor_of_name pn_0) hisR ?_
  intro p e s m args below meth c s₁ Bd hml0 hP hK
  obtain ⟨rfl, hZ, hh⟩ := hP
  have hx := Bd.exec
  have hby := Bd.bytes
  have hml : c.maxLocals = 6 := hml0
  have hown : s.vm.findClass "java/lang/StringUTF16" = some m.cls := findClass_of_methodNamed Bd.named
  have hnm := (name_of_methodNamed Bd.named Bd.method).1
  have X0 : Stand p l e ({ frames := 3, cells := 2, slots := 6, locals := 40 } : Room) s m #[(.ref sr_), (.int (0 : Int32)), (.int (2 : Int32))] below meth c s₁ [] 0 0 := Stand.of_body Bd
  have e0 : s₁.heap = h0 := by rw [← hh, Bd.state]; rfl
  have N0 := Fr.nil n0
  obtain ⟨G, pre0, hG⟩ : ∃ G : State → Prop, (∀ t, own_S p e below m s₁ 0 #[lvR sr_, lvI (0 : Int32), lvI (2 : Int32), .unset, .unset, .unset] [] t → G t) ∧ (∀ t, G t → Steps p.tables e below (s₁.setTop (entryFrame m #[(.ref sr_), (.int (0 : Int32)), (.int (2 : Int32))] 6)) t) := ⟨fun t => Steps p.tables e below (s₁.setTop (entryFrame m #[(.ref sr_), (.int (0 : Int32)), (.int (2 : Int32))] 6)) t, fun t k => castTop (efCq2 m sr_) k, fun _ k => k⟩
  have K0 : Keep h0 h0 [] := Keep.refl _ _
  obtain ⟨T1, h1, k1, X1, e1, E1, A1, Z1, st1⟩ := newPE X0 hx hZ (own_w hw 19 rfl) e0 (g := (mkF m 1 #[lvR sr_, lvI (0 : Int32), lvI (2 : Int32), .unset, .unset, .unset] [(.int (2 : Int32))])) rfl (hb hby d2_1) rfl (by decide) (cap := 2) (by decide) (by decide) (by decide) (by decide) (ad := "[B") (by decide)
  obtain ⟨b1, g1⟩ : ∃ z, z = h0.size := ⟨_, rfl⟩
  rw [← g1] at A1 Z1 st1
  have ge2 : n0 ≤ b1 := Nat.le_trans (Nat.le_trans (Nat.le_of_eq O0.1.symm) O0.2.1) (Nat.le_of_eq g1.symm)
  have sz3 : h0.size ≤ b1 := Nat.le_trans K0.1 (Nat.le_of_eq g1.symm)
  have f4 : Arv Z h1 b1 k1 .byte (2 : Int32) [(.int (0 : Int32)), (.int (0 : Int32))] (.int (0 : Int32)) := (Arv.new A1 (by decide)).pad (pad_rep [] (.int (0 : Int32)) 2)
  have f6 : Arv Z h1 sr_ ks_ .char (2 : Int32) [(.int x0_), (.int x1_)] (.int (0 : Int32)) := P3.ext E1
  have ne7 : sr_ ≠ b1 := Nat.ne_of_lt (Nat.lt_of_lt_of_le P3.lt (Nat.le_of_eq g1.symm))
  have f8 : Old Z n0 h1 := O0.ext E1
  obtain ⟨_, _, ⟨T5, L5, k5, n5⟩, -, X5, ⟨Lc5, hQ5, l5, y5, z5⟩, st5⟩ := Jvm.LawKit.callS X1 hx (y := (⟨"java/lang/StringUTF16", "compress", "([CI[BII)I"⟩ : MethodName)) hown (mvT hZ (own_w hw 20 rfl)) (mvT hZ (own_w hw 21 rfl)) (mvT hZ (own_w hw 17 rfl)) (mvT hZ (own_w hw 22 rfl)) (by decide) (backOf (W := 0) (rmCp2 l Z a0 hw [] sr_ ks_ b1 k1 x0_ x1_ h1 n0 f8 f6 f4 ge2 ne7) hZ (own_w hw 22 rfl) (own_w hw 17 rfl) (by decide) (by decide)) (g := (mkF m 9 #[lvR sr_, lvI (0 : Int32), lvI (2 : Int32), lvR b1, .unset, .unset] [(.int (2 : Int32)), (.int (0 : Int32)), (.ref b1), (.int (0 : Int32)), (.ref sr_)])) rfl (by rw [hml]; rfl) (argsL := [(.ref sr_), (.int (0 : Int32)), (.ref b1), (.int (0 : Int32)), (.int (2 : Int32))]) (rest := []) (lenOf pd_0 rfl) rfl (by show 2 * 0 + _ ≤ _; exact Nat.le_of_eq rfl) (hb hby d2_9) (fun _ _ => ⟨rfl, e1, (by decide : 1 + 0 ≤ _), (by decide : 2 + 0 ≤ _)⟩)
  dsimp only [Pt.U, Pt.locs, Pt.cells, Pt.slots] at X5 l5 y5 z5 st5 hQ5
  subst l5 y5 z5
  obtain ⟨h5, e5⟩ : ∃ z, T5.heap = z := ⟨_, rfl⟩
  rw [e5] at hQ5
  obtain ⟨vs_w_5, rr5, rfl, hs5, N5q, K5, g5_0⟩ := hQ5
  have N9 := Fr.app N0 N5q
  rcases hs5 with ⟨rfl, hq5_0_0⟩ | ⟨rfl, hq5_1_0, hq5_1_1⟩ | ⟨rfl, hq5_2_0, hq5_2_1⟩
  · have f11 : Arv Z h5 sr_ ks_ .char (2 : Int32) [(.int x0_), (.int x1_)] (.int (0 : Int32)) := f6.keep K5 (ninS ne7 nin0)
    have f12 : Old Z n0 h5 := f8.keep K5 (allS (ge2) all0)
    obtain ⟨_, _, ⟨T10, L10, k10, n10⟩, -, X10, ⟨Lc10, hQ10, l10, y10, z10⟩, st10⟩ := Jvm.LawKit.callS X5 hx (y := (⟨"java/lang/StringUTF16", "toBytes", "([CII)[B"⟩ : MethodName)) hown (mvT hZ (own_w hw 46 rfl)) (mvT hZ (own_w hw 47 rfl)) (mvT hZ (own_w hw 17 rfl)) (mvT hZ (own_w hw 48 rfl)) (by decide) (backOf (W := 0) (rmtoBytes11 l Z a0 hw [] sr_ ks_ x0_ x1_ h5 n0 f12 f11 P5 P6 P7) hZ (own_w hw 48 rfl) (own_w hw 17 rfl) (by decide) (by decide)) (g := (mkF m 23 #[lvR sr_, lvI (0 : Int32), lvI (2 : Int32), lvR b1, lvI (0 : Int32), .unset] [(.int (2 : Int32)), (.int (0 : Int32)), (.ref sr_)])) rfl (by rw [hml]; rfl) (argsL := [(.ref sr_), (.int (0 : Int32)), (.int (2 : Int32))]) (rest := []) (lenOf pd_4 rfl) rfl (by show 2 * 0 + _ ≤ _; exact Nat.le_of_eq rfl) (hb hby d2_23) (fun _ _ => ⟨rfl, e5, (by decide : 1 + 1 ≤ _), (by decide : 2 + 4 ≤ _)⟩)
    dsimp only [Pt.U, Pt.locs, Pt.cells, Pt.slots] at X10 l10 y10 z10 st10 hQ10
    subst l10 y10 z10
    obtain ⟨h10, e10⟩ : ∃ z, T10.heap = z := ⟨_, rfl⟩
    rw [e10] at hQ10
    obtain ⟨k3_1_10, nnb3_1_10, rfl, N10q, K10, sznnb3_1_10, g10_0, g10_1⟩ := hQ10
    have N13 := Fr.app N9 N10q
    have ge14 : n0 ≤ nnb3_1_10 := Nat.le_trans (Nat.le_trans (Nat.le_of_eq f12.1.symm) f12.2.1) sznnb3_1_10
    have f15 : Keep h0 h1 [] := K0.ext E1
    have f16 : Keep h0 h5 [] := f15.trans K5 (allS (Or.inr sz3) all0)
    have sz17 : h0.size ≤ nnb3_1_10 := Nat.le_trans f16.1 sznnb3_1_10
    have f19 : Old Z n0 h10 := f12.keep K10 all0
    obtain ⟨_, _, ⟨T18, L18, k18, n18⟩, -, X18, ⟨Lc18, hQ18, l18, y18, z18⟩, st18⟩ := Jvm.LawKit.callS X10 hx (y := (⟨"java/lang/StringUTF16", "getChar", "([BI)C"⟩ : MethodName)) hown (mvT hZ (own_w hw 62 rfl)) (mvT hZ (own_w hw 63 rfl)) (mvT hZ (own_w hw 17 rfl)) (mvT hZ (own_w hw 64 rfl)) (by decide) (backOf (W := 0) (rmgetChar19 l Z a0 hw [] nnb3_1_10 k3_1_10 ((x0_ >>> ((0 : Int32) &&& 31)).toInt8.toInt32) ((x0_ >>> ((8 : Int32) &&& 31)).toInt8.toInt32) ((x1_ >>> ((0 : Int32) &&& 31)).toInt8.toInt32) ((x1_ >>> ((8 : Int32) &&& 31)).toInt8.toInt32) h10 n0 f19 g10_0 g10_1 P5 P6 P7) hZ (own_w hw 64 rfl) (own_w hw 17 rfl) (by decide) (by decide)) (g := (mkF m 32 #[lvR sr_, lvI (0 : Int32), lvI (2 : Int32), lvR b1, lvI (0 : Int32), lvR nnb3_1_10] [(.int (0 : Int32)), (.ref nnb3_1_10)])) rfl (by rw [hml]; rfl) (argsL := [(.ref nnb3_1_10), (.int (0 : Int32))]) (rest := []) (lenOf pd_5 rfl) rfl (by show 2 * 0 + _ ≤ _; exact Nat.le_of_eq rfl) (hb hby d2_32) (fun _ _ => ⟨rfl, e10, (by decide : 2 + 0 ≤ _), (by decide : 6 + 0 ≤ _)⟩)
    dsimp only [Pt.U, Pt.locs, Pt.cells, Pt.slots] at X18 l18 y18 z18 st18 hQ18
    subst l18 y18 z18
    obtain ⟨h18, e18⟩ : ∃ z, T18.heap = z := ⟨_, rfl⟩
    rw [e18] at hQ18
    obtain ⟨rfl, N18q, hh18⟩ := hQ18
    have N20 := Fr.app N13 N18q
    have e18' : T18.heap = h10 := e18.trans hh18
    have hn21 : (255 : Int32) < ((((((x0_ >>> ((0 : Int32) &&& 31)).toInt8.toInt32) &&& (255 : Int32)) <<< ((0 : Int32) &&& 31)) ||| ((((x0_ >>> ((8 : Int32) &&& 31)).toInt8.toInt32) &&& (255 : Int32)) <<< ((8 : Int32) &&& 31))).toUInt32.toUInt16.toUInt32.toInt32) := own_getc hc0_ hq5_0_0
    have pre22 : ∀ t, own_S p e below m T18 56 #[lvR sr_, lvI (0 : Int32), lvI (2 : Int32), lvR b1, lvI (0 : Int32), lvR nnb3_1_10] [(.ref nnb3_1_10)] t → G t := by
      intro t kt
      refine pre0 t ?_
      show own_S p e below m s₁ 0 #[lvR sr_, lvI (0 : Int32), lvI (2 : Int32), .unset, .unset, .unset] [] _
      refine XS.iloadN X0.here hx rfl (hb hby d2_0) rfl ?_
      show own_S p e below m s₁ 1 #[lvR sr_, lvI (0 : Int32), lvI (2 : Int32), .unset, .unset, .unset] [(.int (2 : Int32))] _
      refine st1 _ ?_
      refine XS.astoreN X1.here hx rfl (hb hby d2_3) rfl rfl (l' := #[lvR sr_, lvI (0 : Int32), lvI (2 : Int32), lvR b1, .unset, .unset]) rfl ?_
      refine XS.aloadN X1.here hx rfl (hb hby d2_4) rfl rfl ?_
      refine XS.iloadN X1.here hx rfl (hb hby d2_5) rfl ?_
      refine XS.aloadN X1.here hx rfl (hb hby d2_6) rfl rfl ?_
      refine XS.iconst X1.here hx rfl (hb hby d2_7) ?_
      show own_S p e below m T1 8 #[lvR sr_, lvI (0 : Int32), lvI (2 : Int32), lvR b1, .unset, .unset] [(.int (0 : Int32)), (.ref b1), (.int (0 : Int32)), (.ref sr_)] _
      refine XS.iloadN X1.here hx rfl (hb hby d2_8) rfl ?_
      show own_S p e below m T1 9 #[lvR sr_, lvI (0 : Int32), lvI (2 : Int32), lvR b1, .unset, .unset] [(.int (2 : Int32)), (.int (0 : Int32)), (.ref b1), (.int (0 : Int32)), (.ref sr_)] _
      refine st5 _ ?_
      refine XS.istore X5.here hx rfl (hb hby d2_12) rfl (l' := #[lvR sr_, lvI (0 : Int32), lvI (2 : Int32), lvR b1, lvI (0 : Int32), .unset]) rfl ?_
      refine XS.iload X5.here hx rfl (hb hby d2_14) rfl ?_
      refine XS.iloadN X5.here hx rfl (hb hby d2_16) rfl ?_
      show own_S p e below m T5 17 #[lvR sr_, lvI (0 : Int32), lvI (2 : Int32), lvR b1, lvI (0 : Int32), .unset] [(.int (2 : Int32)), (.int (0 : Int32))] _
      refine XS.icmpNo X5.here hx rfl (hb hby d2_17) rfl (feq (by decide : ¬ ((0 : Int32) = (2 : Int32)))).1 ?_
      refine XS.aloadN X5.here hx rfl (hb hby d2_20) rfl rfl ?_
      refine XS.iloadN X5.here hx rfl (hb hby d2_21) rfl ?_
      refine XS.iloadN X5.here hx rfl (hb hby d2_22) rfl ?_
      show own_S p e below m T5 23 #[lvR sr_, lvI (0 : Int32), lvI (2 : Int32), lvR b1, lvI (0 : Int32), .unset] [(.int (2 : Int32)), (.int (0 : Int32)), (.ref sr_)] _
      refine st10 _ ?_
      refine XS.astore X10.here hx rfl (hb hby d2_26) rfl rfl (l' := #[lvR sr_, lvI (0 : Int32), lvI (2 : Int32), lvR b1, lvI (0 : Int32), lvR nnb3_1_10]) rfl ?_
      refine XS.aload X10.here hx rfl (hb hby d2_28) rfl rfl ?_
      refine XS.iload X10.here hx rfl (hb hby d2_30) rfl ?_
      show own_S p e below m T10 32 #[lvR sr_, lvI (0 : Int32), lvI (2 : Int32), lvR b1, lvI (0 : Int32), lvR nnb3_1_10] [(.int (0 : Int32)), (.ref nnb3_1_10)] _
      refine st18 _ ?_
      refine XS.sipush X18.here hx rfl (hb hby d2_35) ?_
      show own_S p e below m T18 38 #[lvR sr_, lvI (0 : Int32), lvI (2 : Int32), lvR b1, lvI (0 : Int32), lvR nnb3_1_10] [(.int (255 : Int32)), (.int ((((((x0_ >>> ((0 : Int32) &&& 31)).toInt8.toInt32) &&& (255 : Int32)) <<< ((0 : Int32) &&& 31)) ||| ((((x0_ >>> ((8 : Int32) &&& 31)).toInt8.toInt32) &&& (255 : Int32)) <<< ((8 : Int32) &&& 31))).toUInt32.toUInt16.toUInt32.toInt32))] _
      refine XS.icmpYes X18.here hx rfl (pc0 := 38) (pc' := 54) rfl (hb hby d2_38) rfl (tlt hn21).2.2.1 (by decide) (by decide) ?_
      refine XS.aload X18.here hx rfl (hb hby d2_54) rfl rfl ?_
      exact kt
    have f24 : Keep h0 h10 [] := f16.trans K10 all0
    obtain ⟨fs, hr, hrun, hended, hW, hsame⟩ := X18.leave (v := some (.ref nnb3_1_10)) (fun h => by rw [Bd.returns] at h; cases h)
    refine ⟨_, _, hG _ (pre22 _ (retOut X18 hx Bd.returns rfl (Or.inr (Or.inr (Or.inr (Or.inr ⟨rfl, rfl, rfl⟩)))) (hb hby d2_56) hr)), hrun, hended, _, _, rfl, ?_, ⟨_, rfl⟩, hW, hsame.mono (by decide) (by decide)⟩
    show QCq2 Z sr_ ks_ x0_ x1_ w_COMPACT_STRINGS h0 n0 _ T18.heap _
    rw [e18']
    exact ⟨k3_1_10, (4 : Int32), [(.int ((x0_ >>> ((0 : Int32) &&& 31)).toInt8.toInt32)), (.int ((x0_ >>> ((8 : Int32) &&& 31)).toInt8.toInt32)), (.int ((x1_ >>> ((0 : Int32) &&& 31)).toInt8.toInt32)), (.int ((x1_ >>> ((8 : Int32) &&& 31)).toInt8.toInt32))], nnb3_1_10, rfl, N20, f24, sz17, g10_1, g10_0, (Or.inr (by decide))⟩
  · have f26 : Arv Z h5 sr_ ks_ .char (2 : Int32) [(.int x0_), (.int x1_)] (.int (0 : Int32)) := f6.keep K5 (ninS ne7 nin0)
    have f27 : Old Z n0 h5 := f8.keep K5 (allS (ge2) all0)
    obtain ⟨_, _, ⟨T25, L25, k25, n25⟩, -, X25, ⟨Lc25, hQ25, l25, y25, z25⟩, st25⟩ := Jvm.LawKit.callS X5 hx (y := (⟨"java/lang/StringUTF16", "toBytes", "([CII)[B"⟩ : MethodName)) hown (mvT hZ (own_w hw 46 rfl)) (mvT hZ (own_w hw 47 rfl)) (mvT hZ (own_w hw 17 rfl)) (mvT hZ (own_w hw 48 rfl)) (by decide) (backOf (W := 0) (rmtoBytes11 l Z a0 hw [] sr_ ks_ x0_ x1_ h5 n0 f27 f26 P5 P6 P7) hZ (own_w hw 48 rfl) (own_w hw 17 rfl) (by decide) (by decide)) (g := (mkF m 23 #[lvR sr_, lvI (0 : Int32), lvI (2 : Int32), lvR b1, lvI (1 : Int32), .unset] [(.int (2 : Int32)), (.int (0 : Int32)), (.ref sr_)])) rfl (by rw [hml]; rfl) (argsL := [(.ref sr_), (.int (0 : Int32)), (.int (2 : Int32))]) (rest := []) (lenOf pd_4 rfl) rfl (by show 2 * 0 + _ ≤ _; exact Nat.le_of_eq rfl) (hb hby d2_23) (fun _ _ => ⟨rfl, e5, (by decide : 1 + 1 ≤ _), (by decide : 2 + 4 ≤ _)⟩)
    dsimp only [Pt.U, Pt.locs, Pt.cells, Pt.slots] at X25 l25 y25 z25 st25 hQ25
    subst l25 y25 z25
    obtain ⟨h25, e25⟩ : ∃ z, T25.heap = z := ⟨_, rfl⟩
    rw [e25] at hQ25
    obtain ⟨k3_1_25, nnb3_1_25, rfl, N25q, K25, sznnb3_1_25, g25_0, g25_1⟩ := hQ25
    have N28 := Fr.app N9 N25q
    have ge29 : n0 ≤ nnb3_1_25 := Nat.le_trans (Nat.le_trans (Nat.le_of_eq f27.1.symm) f27.2.1) sznnb3_1_25
    have f30 : Keep h0 h1 [] := K0.ext E1
    have f31 : Keep h0 h5 [] := f30.trans K5 (allS (Or.inr sz3) all0)
    have sz32 : h0.size ≤ nnb3_1_25 := Nat.le_trans f31.1 sznnb3_1_25
    have f34 : Old Z n0 h25 := f27.keep K25 all0
    obtain ⟨_, _, ⟨T33, L33, k33, n33⟩, -, X33, ⟨Lc33, hQ33, l33, y33, z33⟩, st33⟩ := Jvm.LawKit.callS X25 hx (y := (⟨"java/lang/StringUTF16", "getChar", "([BI)C"⟩ : MethodName)) hown (mvT hZ (own_w hw 62 rfl)) (mvT hZ (own_w hw 63 rfl)) (mvT hZ (own_w hw 17 rfl)) (mvT hZ (own_w hw 64 rfl)) (by decide) (backOf (W := 0) (rmgetChar20 l Z a0 hw [] nnb3_1_25 k3_1_25 ((x0_ >>> ((0 : Int32) &&& 31)).toInt8.toInt32) ((x0_ >>> ((8 : Int32) &&& 31)).toInt8.toInt32) ((x1_ >>> ((0 : Int32) &&& 31)).toInt8.toInt32) ((x1_ >>> ((8 : Int32) &&& 31)).toInt8.toInt32) h25 n0 f34 g25_0 g25_1 P5 P6 P7) hZ (own_w hw 64 rfl) (own_w hw 17 rfl) (by decide) (by decide)) (g := (mkF m 32 #[lvR sr_, lvI (0 : Int32), lvI (2 : Int32), lvR b1, lvI (1 : Int32), lvR nnb3_1_25] [(.int (1 : Int32)), (.ref nnb3_1_25)])) rfl (by rw [hml]; rfl) (argsL := [(.ref nnb3_1_25), (.int (1 : Int32))]) (rest := []) (lenOf pd_5 rfl) rfl (by show 2 * 0 + _ ≤ _; exact Nat.le_of_eq rfl) (hb hby d2_32) (fun _ _ => ⟨rfl, e25, (by decide : 2 + 0 ≤ _), (by decide : 6 + 0 ≤ _)⟩)
    dsimp only [Pt.U, Pt.locs, Pt.cells, Pt.slots] at X33 l33 y33 z33 st33 hQ33
    subst l33 y33 z33
    obtain ⟨h33, e33⟩ : ∃ z, T33.heap = z := ⟨_, rfl⟩
    rw [e33] at hQ33
    obtain ⟨rfl, N33q, hh33⟩ := hQ33
    have N35 := Fr.app N28 N33q
    have e33' : T33.heap = h25 := e33.trans hh33
    have hn36 : (255 : Int32) < ((((((x1_ >>> ((0 : Int32) &&& 31)).toInt8.toInt32) &&& (255 : Int32)) <<< ((0 : Int32) &&& 31)) ||| ((((x1_ >>> ((8 : Int32) &&& 31)).toInt8.toInt32) &&& (255 : Int32)) <<< ((8 : Int32) &&& 31))).toUInt32.toUInt16.toUInt32.toInt32) := own_getc hc1_ hq5_1_1
    have pre37 : ∀ t, own_S p e below m T33 56 #[lvR sr_, lvI (0 : Int32), lvI (2 : Int32), lvR b1, lvI (1 : Int32), lvR nnb3_1_25] [(.ref nnb3_1_25)] t → G t := by
      intro t kt
      refine pre0 t ?_
      show own_S p e below m s₁ 0 #[lvR sr_, lvI (0 : Int32), lvI (2 : Int32), .unset, .unset, .unset] [] _
      refine XS.iloadN X0.here hx rfl (hb hby d2_0) rfl ?_
      show own_S p e below m s₁ 1 #[lvR sr_, lvI (0 : Int32), lvI (2 : Int32), .unset, .unset, .unset] [(.int (2 : Int32))] _
      refine st1 _ ?_
      refine XS.astoreN X1.here hx rfl (hb hby d2_3) rfl rfl (l' := #[lvR sr_, lvI (0 : Int32), lvI (2 : Int32), lvR b1, .unset, .unset]) rfl ?_
      refine XS.aloadN X1.here hx rfl (hb hby d2_4) rfl rfl ?_
      refine XS.iloadN X1.here hx rfl (hb hby d2_5) rfl ?_
      refine XS.aloadN X1.here hx rfl (hb hby d2_6) rfl rfl ?_
      refine XS.iconst X1.here hx rfl (hb hby d2_7) ?_
      show own_S p e below m T1 8 #[lvR sr_, lvI (0 : Int32), lvI (2 : Int32), lvR b1, .unset, .unset] [(.int (0 : Int32)), (.ref b1), (.int (0 : Int32)), (.ref sr_)] _
      refine XS.iloadN X1.here hx rfl (hb hby d2_8) rfl ?_
      show own_S p e below m T1 9 #[lvR sr_, lvI (0 : Int32), lvI (2 : Int32), lvR b1, .unset, .unset] [(.int (2 : Int32)), (.int (0 : Int32)), (.ref b1), (.int (0 : Int32)), (.ref sr_)] _
      refine st5 _ ?_
      refine XS.istore X5.here hx rfl (hb hby d2_12) rfl (l' := #[lvR sr_, lvI (0 : Int32), lvI (2 : Int32), lvR b1, lvI (1 : Int32), .unset]) rfl ?_
      refine XS.iload X5.here hx rfl (hb hby d2_14) rfl ?_
      refine XS.iloadN X5.here hx rfl (hb hby d2_16) rfl ?_
      show own_S p e below m T5 17 #[lvR sr_, lvI (0 : Int32), lvI (2 : Int32), lvR b1, lvI (1 : Int32), .unset] [(.int (2 : Int32)), (.int (1 : Int32))] _
      refine XS.icmpNo X5.here hx rfl (hb hby d2_17) rfl (feq (by decide : ¬ ((1 : Int32) = (2 : Int32)))).1 ?_
      refine XS.aloadN X5.here hx rfl (hb hby d2_20) rfl rfl ?_
      refine XS.iloadN X5.here hx rfl (hb hby d2_21) rfl ?_
      refine XS.iloadN X5.here hx rfl (hb hby d2_22) rfl ?_
      show own_S p e below m T5 23 #[lvR sr_, lvI (0 : Int32), lvI (2 : Int32), lvR b1, lvI (1 : Int32), .unset] [(.int (2 : Int32)), (.int (0 : Int32)), (.ref sr_)] _
      refine st25 _ ?_
      refine XS.astore X25.here hx rfl (hb hby d2_26) rfl rfl (l' := #[lvR sr_, lvI (0 : Int32), lvI (2 : Int32), lvR b1, lvI (1 : Int32), lvR nnb3_1_25]) rfl ?_
      refine XS.aload X25.here hx rfl (hb hby d2_28) rfl rfl ?_
      refine XS.iload X25.here hx rfl (hb hby d2_30) rfl ?_
      show own_S p e below m T25 32 #[lvR sr_, lvI (0 : Int32), lvI (2 : Int32), lvR b1, lvI (1 : Int32), lvR nnb3_1_25] [(.int (1 : Int32)), (.ref nnb3_1_25)] _
      refine st33 _ ?_
      refine XS.sipush X33.here hx rfl (hb hby d2_35) ?_
      show own_S p e below m T33 38 #[lvR sr_, lvI (0 : Int32), lvI (2 : Int32), lvR b1, lvI (1 : Int32), lvR nnb3_1_25] [(.int (255 : Int32)), (.int ((((((x1_ >>> ((0 : Int32) &&& 31)).toInt8.toInt32) &&& (255 : Int32)) <<< ((0 : Int32) &&& 31)) ||| ((((x1_ >>> ((8 : Int32) &&& 31)).toInt8.toInt32) &&& (255 : Int32)) <<< ((8 : Int32) &&& 31))).toUInt32.toUInt16.toUInt32.toInt32))] _
      refine XS.icmpYes X33.here hx rfl (pc0 := 38) (pc' := 54) rfl (hb hby d2_38) rfl (tlt hn36).2.2.1 (by decide) (by decide) ?_
      refine XS.aload X33.here hx rfl (hb hby d2_54) rfl rfl ?_
      exact kt
    have f39 : Keep h0 h25 [] := f31.trans K25 all0
    obtain ⟨fs, hr, hrun, hended, hW, hsame⟩ := X33.leave (v := some (.ref nnb3_1_25)) (fun h => by rw [Bd.returns] at h; cases h)
    refine ⟨_, _, hG _ (pre37 _ (retOut X33 hx Bd.returns rfl (Or.inr (Or.inr (Or.inr (Or.inr ⟨rfl, rfl, rfl⟩)))) (hb hby d2_56) hr)), hrun, hended, _, _, rfl, ?_, ⟨_, rfl⟩, hW, hsame.mono (by decide) (by decide)⟩
    show QCq2 Z sr_ ks_ x0_ x1_ w_COMPACT_STRINGS h0 n0 _ T33.heap _
    rw [e33']
    exact ⟨k3_1_25, (4 : Int32), [(.int ((x0_ >>> ((0 : Int32) &&& 31)).toInt8.toInt32)), (.int ((x0_ >>> ((8 : Int32) &&& 31)).toInt8.toInt32)), (.int ((x1_ >>> ((0 : Int32) &&& 31)).toInt8.toInt32)), (.int ((x1_ >>> ((8 : Int32) &&& 31)).toInt8.toInt32))], nnb3_1_25, rfl, N35, f39, sz32, g25_1, g25_0, (Or.inr (by decide))⟩
  · have pre40 : ∀ t, own_S p e below m T5 58 #[lvR sr_, lvI (0 : Int32), lvI (2 : Int32), lvR b1, lvI (2 : Int32), .unset] [(.ref b1)] t → G t := by
      intro t kt
      refine pre0 t ?_
      show own_S p e below m s₁ 0 #[lvR sr_, lvI (0 : Int32), lvI (2 : Int32), .unset, .unset, .unset] [] _
      refine XS.iloadN X0.here hx rfl (hb hby d2_0) rfl ?_
      show own_S p e below m s₁ 1 #[lvR sr_, lvI (0 : Int32), lvI (2 : Int32), .unset, .unset, .unset] [(.int (2 : Int32))] _
      refine st1 _ ?_
      refine XS.astoreN X1.here hx rfl (hb hby d2_3) rfl rfl (l' := #[lvR sr_, lvI (0 : Int32), lvI (2 : Int32), lvR b1, .unset, .unset]) rfl ?_
      refine XS.aloadN X1.here hx rfl (hb hby d2_4) rfl rfl ?_
      refine XS.iloadN X1.here hx rfl (hb hby d2_5) rfl ?_
      refine XS.aloadN X1.here hx rfl (hb hby d2_6) rfl rfl ?_
      refine XS.iconst X1.here hx rfl (hb hby d2_7) ?_
      show own_S p e below m T1 8 #[lvR sr_, lvI (0 : Int32), lvI (2 : Int32), lvR b1, .unset, .unset] [(.int (0 : Int32)), (.ref b1), (.int (0 : Int32)), (.ref sr_)] _
      refine XS.iloadN X1.here hx rfl (hb hby d2_8) rfl ?_
      show own_S p e below m T1 9 #[lvR sr_, lvI (0 : Int32), lvI (2 : Int32), lvR b1, .unset, .unset] [(.int (2 : Int32)), (.int (0 : Int32)), (.ref b1), (.int (0 : Int32)), (.ref sr_)] _
      refine st5 _ ?_
      refine XS.istore X5.here hx rfl (hb hby d2_12) rfl (l' := #[lvR sr_, lvI (0 : Int32), lvI (2 : Int32), lvR b1, lvI (2 : Int32), .unset]) rfl ?_
      refine XS.iload X5.here hx rfl (hb hby d2_14) rfl ?_
      refine XS.iloadN X5.here hx rfl (hb hby d2_16) rfl ?_
      show own_S p e below m T5 17 #[lvR sr_, lvI (0 : Int32), lvI (2 : Int32), lvR b1, lvI (2 : Int32), .unset] [(.int (2 : Int32)), (.int (2 : Int32))] _
      refine XS.icmpYes X5.here hx rfl (pc0 := 17) (pc' := 57) rfl (hb hby d2_17) rfl (teq (by decide : (2 : Int32) = (2 : Int32))).1 (by decide) (by decide) ?_
      refine XS.aloadN X5.here hx rfl (hb hby d2_57) rfl rfl ?_
      exact kt
    have f42 : Exa Z h5 b1 "[B" := Z1.keep K5
    have f43 : Keep h0 h1 [] := K0.ext E1
    have f44 : Keep h0 h5 [] := f43.trans K5 (allS (Or.inr sz3) all0)
    obtain ⟨fs, hr, hrun, hended, hW, hsame⟩ := X5.leave (v := some (.ref b1)) (fun h => by rw [Bd.returns] at h; cases h)
    refine ⟨_, _, hG _ (pre40 _ (retOut X5 hx Bd.returns rfl (Or.inr (Or.inr (Or.inr (Or.inr ⟨rfl, rfl, rfl⟩)))) (hb hby d2_58) hr)), hrun, hended, _, _, rfl, ?_, ⟨_, rfl⟩, hW, hsame.mono (by decide) (by decide)⟩
    show QCq2 Z sr_ ks_ x0_ x1_ w_COMPACT_STRINGS h0 n0 _ T5.heap _
    rw [e5]
    exact ⟨k1, (2 : Int32), vs_w_5, b1, rfl, N9, f44, sz3, f42, g5_0, (Or.inl rfl)⟩
theorem efcoderFromArrayLen21 (m : MethodId) (o0_ : Addr) : entryFrame m #[(.ref o0_), (.int (2 : Int32))] 2 = mkF m 0 #[lvR o0_, lvI (2 : Int32)] [] := by first | (simp [entryFrame, mkF, argsToLocals, Value.category]; done) | rfl
def QcoderFromArrayLen21 (Z : State) (o0_ : Addr) (ko0_ : ClassId) (lo0_ : List Value) (h0 : Heap) (n0 : Nat) (v : Option Value) (h : Heap) (L : List Loc) : Prop := v = some (.int (0 : Int32)) ∧ Fr n0 L ∧ h = h0
set_option maxRecDepth 65536 in
set_option maxHeartbeats 40000000 in
theorem rmcoderFromArrayLen21 (l : Launch) (Z : State) (a0 : Array Value) (hw : ∀ d ∈ tables_1, d.before a0 Z = true) (ws : List Jvm.Cond) (o0_ : Addr) (ko0_ : ClassId) (lo0_ : List Value) (h0 : Heap) (n0 : Nat) (O0 : Old Z n0 h0) (P0 : Exa Z h0 o0_ "[B") (P1 : Arv Z h0 o0_ ko0_ .byte (2 : Int32) lo0_ (.int (0 : Int32))) :
    MetFree l (⟨"java/lang/StringUTF16", "coderFromArrayLen", "([BI)B"⟩ : MethodName) (head1 (Jvm.Cond.code (⟨"java/lang/StringUTF16", "coderFromArrayLen", "([BI)B"⟩ : MethodName) jdk_52_method_15_code 2 (some .byte) :: ws) ({ frames := 0, cells := 0, slots := 0, locals := 0 } : Room)) (fun a U => a = #[(.ref o0_), (.int (2 : Int32))] ∧ Z.Warmed39 U.vm ∧ U.heap = h0) (fun _ _ _ _ _ => True) (fun _ U o U' => ∃ v L, o = .returned v ∧ QcoderFromArrayLen21 Z o0_ ko0_ lo0_ h0 n0 v U'.heap L ∧ FrameEnd U o U' L ({ frames := 0, cells := 0, slots := 0, locals := 0 } : Room).cells ({ frames := 0, cells := 0, slots := 0, locals := 0 } : Room).slots) := by
  refine MetFree.of_bodySF (plainFor_of_name pn_0) hisR ?_
  intro p e s m args below meth c s₁ Bd hml0 hP hK
  obtain ⟨rfl, hZ, hh⟩ := hP
  have hx := Bd.exec
  have hby := Bd.bytes
  have hml : c.maxLocals = 2 := hml0
  have hown : s.vm.findClass "java/lang/StringUTF16" = some m.cls := findClass_of_methodNamed Bd.named
  have hnm := (name_of_methodNamed Bd.named Bd.method).1
  have X0 : Stand p l e ({ frames := 0, cells := 0, slots := 0, locals := 0 } : Room) s m #[(.ref o0_), (.int (2 : Int32))] below meth c s₁ [] 0 0 := Stand.of_body Bd
  have e0 : s₁.heap = h0 := by rw [← hh, Bd.state]; rfl
  have N0 := Fr.nil n0
  obtain ⟨G, pre0, hG⟩ : ∃ G : State → Prop, (∀ t, own_S p e below m s₁ 0 #[lvR o0_, lvI (2 : Int32)] [] t → G t) ∧ (∀ t, G t → Steps p.tables e below (s₁.setTop (entryFrame m #[(.ref o0_), (.int (2 : Int32))] 2)) t) := ⟨fun t => Steps p.tables e below (s₁.setTop (entryFrame m #[(.ref o0_), (.int (2 : Int32))] 2)) t, fun t k => castTop (efcoderFromArrayLen21 m o0_) k, fun _ k => k⟩
  have K0 : Keep h0 h0 [] := Keep.refl _ _
  obtain ⟨c1, r1, q1, s1, z1, y1, G1⟩ := id P1
  have pre2 : ∀ t, own_S p e below m s₁ 8 #[lvR o0_, lvI (2 : Int32)] [(.int (0 : Int32))] t → G t := by
    intro t kt
    refine pre0 t ?_
    show own_S p e below m s₁ 0 #[lvR o0_, lvI (2 : Int32)] [] _
    refine XS.iloadN X0.here hx rfl (hb hby d9_0) rfl ?_
    refine XS.aloadN X0.here hx rfl (hb hby d9_1) rfl rfl ?_
    show own_S p e below m s₁ 2 #[lvR o0_, lvI (2 : Int32)] [(.ref o0_), (.int (2 : Int32))] _
    refine X0.arraylength hx (by rw [e0]; exact r1.1) (State.isArrayOf_alike hZ.alike r1.2.1) (g := (mkF m 2 #[lvR o0_, lvI (2 : Int32)] [(.ref o0_), (.int (2 : Int32))])) rfl rfl (hb hby d9_2) _ ?_
    rw [len_of s1 z1]
    refine XS.isub X0.here hx rfl (hb hby d9_3) rfl ?_
    refine XS.bipush X0.here hx rfl (hb hby d9_4) ?_
    show own_S p e below m s₁ 6 #[lvR o0_, lvI (2 : Int32)] [(.int (31 : Int32)), (.int (0 : Int32))] _
    refine XS.iushr X0.here hx rfl (hb hby d9_6) rfl ?_
    show own_S p e below m s₁ 7 #[lvR o0_, lvI (2 : Int32)] [(.int (0 : Int32))] _
    refine XS.i2b X0.here hx rfl (hb hby d9_7) rfl ?_
    exact kt
  obtain ⟨fs, hr, hrun, hended, hW, hsame⟩ := X0.leave (v := some (.int (0 : Int32))) (fun h => by rw [Bd.returns] at h; cases h)
  refine ⟨_, _, hG _ (pre2 _ (retN X0 hx (t := .byte) Bd.returns (by simp) (hb hby d9_8) hr)), hrun, hended, _, _, rfl, ?_, ⟨_, rfl⟩, hW, hsame.mono (by decide) (by decide)⟩
  show QcoderFromArrayLen21 Z o0_ ko0_ lo0_ h0 n0 _ s₁.heap _
  rw [e0]
  exact ⟨rfl, N0, rfl⟩
theorem efcoderFromArrayLen22 (m : MethodId) (o0_ : Addr) : entryFrame m #[(.ref o0_), (.int (2 : Int32))] 2 = mkF m 0 #[lvR o0_, lvI (2 : Int32)] [] := by first | (simp [entryFrame, mkF, argsToLocals, Value.category]; done) | rfl
def QcoderFromArrayLen22 (Z : State) (o0_ : Addr) (ko0_ : ClassId) (lo0_ : List Value) (h0 : Heap) (n0 : Nat) (v : Option Value) (h : Heap) (L : List Loc) : Prop := v = some (.int (1 : Int32)) ∧ Fr n0 L ∧ h = h0
set_option maxRecDepth 65536 in
set_option maxHeartbeats 40000000 in
theorem rmcoderFromArrayLen22 (l : Launch) (Z : State) (a0 : Array Value) (hw : ∀ d ∈ tables_1, d.before a0 Z = true) (ws : List Jvm.Cond) (o0_ : Addr) (ko0_ : ClassId) (lo0_ : List Value) (h0 : Heap) (n0 : Nat) (O0 : Old Z n0 h0) (P0 : Exa Z h0 o0_ "[B") (P1 : Arv Z h0 o0_ ko0_ .byte (4 : Int32) lo0_ (.int (0 : Int32))) :
    MetFree l (⟨"java/lang/StringUTF16", "coderFromArrayLen", "([BI)B"⟩ : MethodName) (head1 (Jvm.Cond.code (⟨"java/lang/StringUTF16", "coderFromArrayLen", "([BI)B"⟩ : MethodName) jdk_52_method_15_code 2 (some .byte) :: ws) ({ frames := 0, cells := 0, slots := 0, locals := 0 } : Room)) (fun a U => a = #[(.ref o0_), (.int (2 : Int32))] ∧ Z.Warmed39 U.vm ∧ U.heap = h0) (fun _ _ _ _ _ => True) (fun _ U o U' => ∃ v L, o = .returned v ∧ QcoderFromArrayLen22 Z o0_ ko0_ lo0_ h0 n0 v U'.heap L ∧ FrameEnd U o U' L ({ frames := 0, cells := 0, slots := 0, locals := 0 } : Room).cells ({ frames := 0, cells := 0, slots := 0, locals := 0 } : Room).slots) := by
  refine MetFree.of_bodySF (plainFor_of_name pn_0) hisR ?_
  intro p e s m args below meth c s₁ Bd hml0 hP hK
  obtain ⟨rfl, hZ, hh⟩ := hP
  have hx := Bd.exec
  have hby := Bd.bytes
  have hml : c.maxLocals = 2 := hml0
  have hown : s.vm.findClass "java/lang/StringUTF16" = some m.cls := findClass_of_methodNamed Bd.named
  have hnm := (name_of_methodNamed Bd.named Bd.method).1
  have X0 : Stand p l e ({ frames := 0, cells := 0, slots := 0, locals := 0 } : Room) s m #[(.ref o0_), (.int (2 : Int32))] below meth c s₁ [] 0 0 := Stand.of_body Bd
  have e0 : s₁.heap = h0 := by rw [← hh, Bd.state]; rfl
  have N0 := Fr.nil n0
  obtain ⟨G, pre0, hG⟩ : ∃ G : State → Prop, (∀ t, own_S p e below m s₁ 0 #[lvR o0_, lvI (2 : Int32)] [] t → G t) ∧ (∀ t, G t → Steps p.tables e below (s₁.setTop (entryFrame m #[(.ref o0_), (.int (2 : Int32))] 2)) t) := ⟨fun t => Steps p.tables e below (s₁.setTop (entryFrame m #[(.ref o0_), (.int (2 : Int32))] 2)) t, fun t k => castTop (efcoderFromArrayLen22 m o0_) k, fun _ k => k⟩
  have K0 : Keep h0 h0 [] := Keep.refl _ _
  obtain ⟨c1, r1, q1, s1, z1, y1, G1⟩ := id P1
  have pre2 : ∀ t, own_S p e below m s₁ 8 #[lvR o0_, lvI (2 : Int32)] [(.int (1 : Int32))] t → G t := by
    intro t kt
    refine pre0 t ?_
    show own_S p e below m s₁ 0 #[lvR o0_, lvI (2 : Int32)] [] _
    refine XS.iloadN X0.here hx rfl (hb hby d9_0) rfl ?_
    refine XS.aloadN X0.here hx rfl (hb hby d9_1) rfl rfl ?_
    show own_S p e below m s₁ 2 #[lvR o0_, lvI (2 : Int32)] [(.ref o0_), (.int (2 : Int32))] _
    refine X0.arraylength hx (by rw [e0]; exact r1.1) (State.isArrayOf_alike hZ.alike r1.2.1) (g := (mkF m 2 #[lvR o0_, lvI (2 : Int32)] [(.ref o0_), (.int (2 : Int32))])) rfl rfl (hb hby d9_2) _ ?_
    rw [len_of s1 z1]
    refine XS.isub X0.here hx rfl (hb hby d9_3) rfl ?_
    refine XS.bipush X0.here hx rfl (hb hby d9_4) ?_
    show own_S p e below m s₁ 6 #[lvR o0_, lvI (2 : Int32)] [(.int (31 : Int32)), (.int (-2 : Int32))] _
    refine XS.iushr X0.here hx rfl (hb hby d9_6) rfl ?_
    show own_S p e below m s₁ 7 #[lvR o0_, lvI (2 : Int32)] [(.int (1 : Int32))] _
    refine XS.i2b X0.here hx rfl (hb hby d9_7) rfl ?_
    exact kt
  obtain ⟨fs, hr, hrun, hended, hW, hsame⟩ := X0.leave (v := some (.int (1 : Int32))) (fun h => by rw [Bd.returns] at h; cases h)
  refine ⟨_, _, hG _ (pre2 _ (retN X0 hx (t := .byte) Bd.returns (by simp) (hb hby d9_8) hr)), hrun, hended, _, _, rfl, ?_, ⟨_, rfl⟩, hW, hsame.mono (by decide) (by decide)⟩
  show QcoderFromArrayLen22 Z o0_ ko0_ lo0_ h0 n0 _ s₁.heap _
  rw [e0]
  exact ⟨rfl, N0, rfl⟩
theorem efIa2 (m : MethodId) (o_ : Addr) (sr_ : Addr) : entryFrame m #[(.ref o_), (.ref sr_), (.int (0 : Int32)), (.int (2 : Int32)), .null] 6 = mkF m 0 #[lvR o_, lvR sr_, lvI (0 : Int32), lvI (2 : Int32), .val .null, .unset] [] := by first | (simp [entryFrame, mkF, argsToLocals, Value.category]; done) | rfl
def QIa2 (Z : State) (o_ : Addr) (sr_ : Addr) (ks_ : ClassId) (x0_ : Int32) (x1_ : Int32) (u_coder_o_ : Int32) (u_value_o_ : Value) (w_COMPACT_STRINGS : Int32) (h0 : Heap) (n0 : Nat) (v : Option Value) (h : Heap) (L : List Loc) : Prop := ∃ k_w : ClassId, ∃ z_w : Int32, ∃ vs_w : List Value, ∃ nw_ : Addr, v = none ∧ Fr n0 L ∧ Keep h0 h [o_] ∧ h0.size ≤ nw_ ∧ Fld Z h o_ "java/lang/String" "value" "[B" (.ref nw_) ∧ Exa Z h nw_ "[B" ∧ Arv Z h nw_ k_w .byte z_w vs_w (.int (0 : Int32)) ∧ ¬ (z_w = (0 : Int32))
set_option maxRecDepth 65536 in
set_option maxHeartbeats 40000000 in
theorem rmIa2 (l : Launch) (Z : State) (a0 : Array Value) (hw : ∀ d ∈ tables_1, d.before a0 Z = true) (ws : List Jvm.Cond) (o_ : Addr) (sr_ : Addr) (ks_ : ClassId) (x0_ : Int32) (x1_ : Int32) (u_coder_o_ : Int32) (u_value_o_ : Value) (w_COMPACT_STRINGS : Int32) (h0 : Heap) (n0 : Nat) (O0 : Old Z n0 h0) (hc0_ : own_chr x0_) (hc1_ : own_chr x1_) (hz_0 : ¬ (w_COMPACT_STRINGS = (0 : Int32))) (P3 : Exa Z h0 o_ "java/lang/String") (P4 : Fld Z h0 o_ "java/lang/String" "coder" "B" (.int u_coder_o_)) (P5 : Fld Z h0 o_ "java/lang/String" "value" "[B" u_value_o_) (P6 : Arv Z h0 sr_ ks_ .char (2 : Int32) [(.int x0_), (.int x1_)] (.int (0 : Int32))) (P7 : Sta Z Z.heap "java/lang/String" "COMPACT_STRINGS" "Z" (.int w_COMPACT_STRINGS)) (P8 : Sta Z Z.heap "java/lang/StringUTF16" "$assertionsDisabled" "Z" (.int (1 : Int32))) (P9 : Sta Z Z.heap "java/lang/StringUTF16" "HI_BYTE_SHIFT" "I" (.int (0 : Int32))) (P10 : Sta Z Z.heap "java/lang/StringUTF16" "LO_BYTE_SHIFT" "I" (.int (8 : Int32))) (P11 : n0 ≤ o_) :
    MetFree l (⟨"java/lang/String", "<init>", "([CIILjava/lang/Void;)V"⟩ : MethodName) (head1 (Jvm.Cond.code (⟨"java/lang/String", "<init>", "([CIILjava/lang/Void;)V"⟩ : MethodName) jdk_42_method_149_code 6 none :: ws) ({ frames := 4, cells := 2, slots := 6, locals := 57 } : Room)) (fun a U => a = #[(.ref o_), (.ref sr_), (.int (0 : Int32)), (.int (2 : Int32)), .null] ∧ Z.Warmed39 U.vm ∧ U.heap = h0) (fun _ _ _ _ _ => True) (fun _ U o U' => ∃ v L, o = .returned v ∧ QIa2 Z o_ sr_ ks_ x0_ x1_ u_coder_o_ u_value_o_ w_COMPACT_STRINGS h0 n0 v U'.heap L ∧ FrameEnd U o U' L ({ frames := 4, cells := 2, slots := 6, locals := 57 } : Room).cells ({ frames := 4, cells := 2, slots := 6, locals := 57 } : Room).slots) := by
  refine MetFree.of_bodySF (plainFor_of_name pn_1) hisR ?_
  intro p e s m args below meth c s₁ Bd hml0 hP hK
  obtain ⟨rfl, hZ, hh⟩ := hP
  have hx := Bd.exec
  have hby := Bd.bytes
  have hml : c.maxLocals = 6 := hml0
  have hown : s.vm.findClass "java/lang/String" = some m.cls := findClass_of_methodNamed Bd.named
  have hnm := (name_of_methodNamed Bd.named Bd.method).1
  have X0 : Stand p l e ({ frames := 4, cells := 2, slots := 6, locals := 57 } : Room) s m #[(.ref o_), (.ref sr_), (.int (0 : Int32)), (.int (2 : Int32)), .null] below meth c s₁ [] 0 0 := Stand.of_body Bd
  have e0 : s₁.heap = h0 := by rw [← hh, Bd.state]; rfl
  have N0 := Fr.nil n0
  obtain ⟨G, pre0, hG⟩ : ∃ G : State → Prop, (∀ t, own_S p e below m s₁ 0 #[lvR o_, lvR sr_, lvI (0 : Int32), lvI (2 : Int32), .val .null, .unset] [] t → G t) ∧ (∀ t, G t → Steps p.tables e below (s₁.setTop (entryFrame m #[(.ref o_), (.ref sr_), (.int (0 : Int32)), (.int (2 : Int32)), .null] 6)) t) := ⟨fun t => Steps p.tables e below (s₁.setTop (entryFrame m #[(.ref o_), (.ref sr_), (.int (0 : Int32)), (.int (2 : Int32)), .null] 6)) t, fun t k => castTop (efIa2 m o_ sr_) k, fun _ k => k⟩
  have K0 : Keep h0 h0 [o_] := Keep.refl _ _
  obtain ⟨T1, X1, e1, st1⟩ := initO X0 hx hZ hown (own_w hw 11 rfl) (own_w hw 12 rfl) (own_w hw 13 rfl) e0 (g := (mkF m 1 #[lvR o_, lvR sr_, lvI (0 : Int32), lvI (2 : Int32), .val .null, .unset] [(.ref o_)])) rfl (by rw [hml]; rfl) rfl (hb hby d8_1) (by decide) (W := 0) (by show 2 * 0 + _ ≤ _; exact Nat.le_of_eq rfl) (by decide)
  obtain ⟨T2, X2, e2, st2⟩ := getS2 X1 hx hZ hown (host := "") (Or.inl (own_w hw 14 rfl)) Via.refl e1 (P7.ext O0.2) (g := (mkF m 27 #[lvR o_, lvR sr_, lvI (0 : Int32), lvI (2 : Int32), .val .null, .unset] [])) rfl (hb hby d8_27)
  obtain ⟨_, _, ⟨T3, L3, k3, n3⟩, -, X3, ⟨Lc3, hQ3, l3, y3, z3⟩, st3⟩ := Jvm.LawKit.callS X2 hx (y := (⟨"java/lang/StringUTF16", "compress", "([CII)[B"⟩ : MethodName)) hown (mvT hZ (own_w hw 15 rfl)) (mvT hZ (own_w hw 16 rfl)) (mvT hZ (own_w hw 17 rfl)) (mvT hZ (own_w hw 18 rfl)) (by decide) (backOf (W := 0) (rmCq2 l Z a0 hw [] sr_ ks_ x0_ x1_ w_COMPACT_STRINGS h0 n0 O0 hc0_ hc1_ hz_0 P6 P7 P8 P9 P10) hZ (own_w hw 18 rfl) (own_w hw 17 rfl) (by decide) (by decide)) (g := (mkF m 36 #[lvR o_, lvR sr_, lvI (0 : Int32), lvI (2 : Int32), .val .null, .unset] [(.int (2 : Int32)), (.int (0 : Int32)), (.ref sr_)])) rfl (by rw [hml]; rfl) (argsL := [(.ref sr_), (.int (0 : Int32)), (.int (2 : Int32))]) (rest := []) (lenOf pd_4 rfl) rfl (by show 2 * 0 + _ ≤ _; exact Nat.le_of_eq rfl) (hb hby d8_36) (fun _ _ => ⟨rfl, e2, (by decide : 0 + 2 ≤ _), (by decide : 0 + 6 ≤ _)⟩)
  dsimp only [Pt.U, Pt.locs, Pt.cells, Pt.slots] at X3 l3 y3 z3 st3 hQ3
  subst l3 y3 z3
  obtain ⟨h3, e3⟩ : ∃ z, T3.heap = z := ⟨_, rfl⟩
  rw [e3] at hQ3
  obtain ⟨k_w_3, z_w_3, vs_w_3, nw__3, rfl, N3q, K3, sznw__3, g3_0, g3_1, qx3_0⟩ := hQ3
  have N4 := Fr.app N0 N3q
  have ge5 : n0 ≤ nw__3 := Nat.le_trans (Nat.le_trans (Nat.le_of_eq O0.1.symm) O0.2.1) sznw__3
  have sz6 : h0.size ≤ nw__3 := Nat.le_trans K0.1 sznw__3
  have pre7 : ∀ t, own_S p e below m T3 41 #[lvR o_, lvR sr_, lvI (0 : Int32), lvI (2 : Int32), .val .null, lvR nw__3] [] t → G t := by
    intro t kt
    refine pre0 t ?_
    show own_S p e below m s₁ 0 #[lvR o_, lvR sr_, lvI (0 : Int32), lvI (2 : Int32), .val .null, .unset] [] _
    refine XS.aloadN X0.here hx rfl (hb hby d8_0) rfl rfl ?_
    show own_S p e below m s₁ 1 #[lvR o_, lvR sr_, lvI (0 : Int32), lvI (2 : Int32), .val .null, .unset] [(.ref o_)] _
    refine st1 _ ?_
    refine XS.iloadN X1.here hx rfl (hb hby d8_4) rfl ?_
    show own_S p e below m T1 5 #[lvR o_, lvR sr_, lvI (0 : Int32), lvI (2 : Int32), .val .null, .unset] [(.int (2 : Int32))] _
    refine XS.ifYes X1.here hx rfl (pc0 := 5) (pc' := 27) rfl (hb hby d8_5) rfl ((if0 _ _).trans (feq (by decide : ¬ ((2 : Int32) = (0 : Int32)))).2) (by decide) (by decide) ?_
    show own_S p e below m T1 27 #[lvR o_, lvR sr_, lvI (0 : Int32), lvI (2 : Int32), .val .null, .unset] [] _
    refine st2 _ ?_
    show own_S p e below m T2 30 #[lvR o_, lvR sr_, lvI (0 : Int32), lvI (2 : Int32), .val .null, .unset] [(.int w_COMPACT_STRINGS)] _
    refine XS.ifNo X2.here hx rfl (hb hby d8_30) rfl ((if0 _ _).trans (feq hz_0).1) ?_
    refine XS.aloadN X2.here hx rfl (hb hby d8_33) rfl rfl ?_
    refine XS.iloadN X2.here hx rfl (hb hby d8_34) rfl ?_
    refine XS.iloadN X2.here hx rfl (hb hby d8_35) rfl ?_
    show own_S p e below m T2 36 #[lvR o_, lvR sr_, lvI (0 : Int32), lvI (2 : Int32), .val .null, .unset] [(.int (2 : Int32)), (.int (0 : Int32)), (.ref sr_)] _
    refine st3 _ ?_
    refine XS.astore X3.here hx rfl (hb hby d8_39) rfl rfl (l' := #[lvR o_, lvR sr_, lvI (0 : Int32), lvI (2 : Int32), .val .null, lvR nw__3]) rfl ?_
    exact kt
  rcases qx3_0 with hz8 | hz8
  · have f9 : Arv Z h3 nw__3 k_w_3 .byte (2 : Int32) vs_w_3 (.int (0 : Int32)) := by have q := g3_1; rw [hz8] at q; exact q
    have f11 : Old Z n0 h3 := O0.keep K3 all0
    obtain ⟨_, _, ⟨T10, L10, k10, n10⟩, -, X10, ⟨Lc10, hQ10, l10, y10, z10⟩, st10⟩ := Jvm.LawKit.callS X3 hx (y := (⟨"java/lang/StringUTF16", "coderFromArrayLen", "([BI)B"⟩ : MethodName)) hown (mvT hZ (own_w hw 23 rfl)) (mvT hZ (own_w hw 24 rfl)) (mvT hZ (own_w hw 17 rfl)) (mvT hZ (own_w hw 25 rfl)) (by decide) (backOf (W := 1) (rmcoderFromArrayLen21 l Z a0 hw [] nw__3 k_w_3 vs_w_3 h3 n0 f11 g3_0 f9) hZ (own_w hw 25 rfl) (own_w hw 17 rfl) (by decide) (by decide)) (g := (mkF m 45 #[lvR o_, lvR sr_, lvI (0 : Int32), lvI (2 : Int32), .val .null, lvR nw__3] [(.int (2 : Int32)), (.ref nw__3), (.ref o_)])) rfl (by rw [hml]; rfl) (argsL := [(.ref nw__3), (.int (2 : Int32))]) (rest := [(.ref o_)]) (lenOf pd_6 rfl) rfl (by show 2 * 0 + _ ≤ _; exact Nat.le_of_eq rfl) (hb hby d8_45) (fun _ _ => ⟨rfl, e3, (by decide : 2 + 0 ≤ _), (by decide : 6 + 0 ≤ _)⟩)
    dsimp only [Pt.U, Pt.locs, Pt.cells, Pt.slots] at X10 l10 y10 z10 st10 hQ10
    subst l10 y10 z10
    obtain ⟨h10, e10⟩ : ∃ z, T10.heap = z := ⟨_, rfl⟩
    rw [e10] at hQ10
    obtain ⟨rfl, N10q, hh10⟩ := hQ10
    have N12 := Fr.app N4 N10q
    have e10' : T10.heap = h3 := e10.trans hh10
    have f13 : Fld Z h3 o_ "java/lang/String" "coder" "B" (.int u_coder_o_) := P4.keep K3 nin0
    have f14 : Exa Z h3 o_ "java/lang/String" := P3.keep K3
    obtain ⟨T15, h15, X15, e15, W15, st15⟩ := putF X10 hx hZ hown (host := "") (Or.inl (own_w hw 26 rfl)) Via.refl e10' f13 f14 (Or.inr ⟨(own_w hw 27 rfl), rfl, hnm⟩) (own_w hw 1 rfl) (ty := .byte) (by decide) rfl rfl (g := (mkF m 48 #[lvR o_, lvR sr_, lvI (0 : Int32), lvI (2 : Int32), .val .null, lvR nw__3] [(.int (0 : Int32)), (.ref o_)])) rfl rfl (hb hby d8_48)
    have N16 := Fr.snoc X15 N12 P11
    have f17 : Fld Z h15 o_ "java/lang/String" "coder" "B" (.int (0 : Int32)) := f13.same W15
    have f18 : Fld Z h3 o_ "java/lang/String" "value" "[B" u_value_o_ := P5.keep K3 nin0
    have f19 : Fld Z h15 o_ "java/lang/String" "value" "[B" u_value_o_ := f18.other W15 (Or.inr (slot_ne (Or.inr (own_w hw 29 rfl)) (Or.inr (own_w hw 27 rfl)) (by decide) (t := (.array .byte)) (t' := .byte) (by decide) (by decide)))
    have f20 : Exa Z h15 o_ "java/lang/String" := f14.wr W15
    obtain ⟨T21, h21, X21, e21, W21, st21⟩ := putF X15 hx hZ hown (host := "") (Or.inl (own_w hw 28 rfl)) Via.refl e15 f19 f20 (Or.inr ⟨(own_w hw 29 rfl), rfl, hnm⟩) (own_w hw 1 rfl) (ty := (.array .byte)) (by decide) rfl rfl (g := (mkF m 54 #[lvR o_, lvR sr_, lvI (0 : Int32), lvI (2 : Int32), .val .null, lvR nw__3] [(.ref nw__3), (.ref o_)])) rfl rfl (hb hby d8_54)
    have N22 := Fr.snoc X21 N16 P11
    have f23 : Fld Z h21 o_ "java/lang/String" "value" "[B" (.ref nw__3) := f19.same W21
    have pre24 : ∀ t, own_S p e below m T21 57 #[lvR o_, lvR sr_, lvI (0 : Int32), lvI (2 : Int32), .val .null, lvR nw__3] [] t → G t := by
      intro t kt
      refine pre7 t ?_
      show own_S p e below m T3 41 #[lvR o_, lvR sr_, lvI (0 : Int32), lvI (2 : Int32), .val .null, lvR nw__3] [] _
      refine XS.aloadN X3.here hx rfl (hb hby d8_41) rfl rfl ?_
      refine XS.aload X3.here hx rfl (hb hby d8_42) rfl rfl ?_
      refine XS.iloadN X3.here hx rfl (hb hby d8_44) rfl ?_
      show own_S p e below m T3 45 #[lvR o_, lvR sr_, lvI (0 : Int32), lvI (2 : Int32), .val .null, lvR nw__3] [(.int (2 : Int32)), (.ref nw__3), (.ref o_)] _
      refine st10 _ ?_
      show own_S p e below m T10 48 #[lvR o_, lvR sr_, lvI (0 : Int32), lvI (2 : Int32), .val .null, lvR nw__3] [(.int (0 : Int32)), (.ref o_)] _
      refine st15 _ ?_
      refine XS.aloadN X15.here hx rfl (hb hby d8_51) rfl rfl ?_
      refine XS.aload X15.here hx rfl (hb hby d8_52) rfl rfl ?_
      show own_S p e below m T15 54 #[lvR o_, lvR sr_, lvI (0 : Int32), lvI (2 : Int32), .val .null, lvR nw__3] [(.ref nw__3), (.ref o_)] _
      refine st21 _ ?_
      exact kt
    have f26 : Exa Z h15 nw__3 "[B" := g3_0.wr W15
    have f27 : Exa Z h21 nw__3 "[B" := f26.wr W21
    have ne29 : o_ ≠ nw__3 := Nat.ne_of_lt (Nat.lt_of_lt_of_le P3.lt sznw__3)
    have f28 : Arv Z h15 nw__3 k_w_3 .byte (2 : Int32) vs_w_3 (.int (0 : Int32)) := f9.other W15 (Ne.symm ne29)
    have f30 : Arv Z h21 nw__3 k_w_3 .byte (2 : Int32) vs_w_3 (.int (0 : Int32)) := f28.other W21 (Ne.symm ne29)
    have f31 : Keep h0 h3 [o_] := K0.trans K3 all0
    have f32 : Keep h0 h15 [o_] := f31.wr W15 (Or.inl (List.mem_of_getElem? (i := 0) rfl))
    have f33 : Keep h0 h21 [o_] := f32.wr W21 (Or.inl (List.mem_of_getElem? (i := 0) rfl))
    obtain ⟨fs, hr, hrun, hended, hW, hsame⟩ := X21.leave (v := none) (fun _ => rfl)
    refine ⟨_, _, hG _ (pre24 _ (X21.returnOut hx Bd.returns (hb hby d8_57) hr)), hrun, hended, _, _, rfl, ?_, ⟨_, rfl⟩, hW, hsame.mono (by decide) (by decide)⟩
    show QIa2 Z o_ sr_ ks_ x0_ x1_ u_coder_o_ u_value_o_ w_COMPACT_STRINGS h0 n0 _ T21.heap _
    rw [e21]
    exact ⟨k_w_3, (2 : Int32), vs_w_3, nw__3, rfl, N22, f33, sz6, f23, f27, f30, (by decide)⟩
  · have f34 : Arv Z h3 nw__3 k_w_3 .byte (4 : Int32) vs_w_3 (.int (0 : Int32)) := by have q := g3_1; rw [hz8] at q; exact q
    have f36 : Old Z n0 h3 := O0.keep K3 all0
    obtain ⟨_, _, ⟨T35, L35, k35, n35⟩, -, X35, ⟨Lc35, hQ35, l35, y35, z35⟩, st35⟩ := Jvm.LawKit.callS X3 hx (y := (⟨"java/lang/StringUTF16", "coderFromArrayLen", "([BI)B"⟩ : MethodName)) hown (mvT hZ (own_w hw 23 rfl)) (mvT hZ (own_w hw 24 rfl)) (mvT hZ (own_w hw 17 rfl)) (mvT hZ (own_w hw 25 rfl)) (by decide) (backOf (W := 1) (rmcoderFromArrayLen22 l Z a0 hw [] nw__3 k_w_3 vs_w_3 h3 n0 f36 g3_0 f34) hZ (own_w hw 25 rfl) (own_w hw 17 rfl) (by decide) (by decide)) (g := (mkF m 45 #[lvR o_, lvR sr_, lvI (0 : Int32), lvI (2 : Int32), .val .null, lvR nw__3] [(.int (2 : Int32)), (.ref nw__3), (.ref o_)])) rfl (by rw [hml]; rfl) (argsL := [(.ref nw__3), (.int (2 : Int32))]) (rest := [(.ref o_)]) (lenOf pd_6 rfl) rfl (by show 2 * 0 + _ ≤ _; exact Nat.le_of_eq rfl) (hb hby d8_45) (fun _ _ => ⟨rfl, e3, (by decide : 2 + 0 ≤ _), (by decide : 6 + 0 ≤ _)⟩)
    dsimp only [Pt.U, Pt.locs, Pt.cells, Pt.slots] at X35 l35 y35 z35 st35 hQ35
    subst l35 y35 z35
    obtain ⟨h35, e35⟩ : ∃ z, T35.heap = z := ⟨_, rfl⟩
    rw [e35] at hQ35
    obtain ⟨rfl, N35q, hh35⟩ := hQ35
    have N37 := Fr.app N4 N35q
    have e35' : T35.heap = h3 := e35.trans hh35
    have f38 : Fld Z h3 o_ "java/lang/String" "coder" "B" (.int u_coder_o_) := P4.keep K3 nin0
    have f39 : Exa Z h3 o_ "java/lang/String" := P3.keep K3
    obtain ⟨T40, h40, X40, e40, W40, st40⟩ := putF X35 hx hZ hown (host := "") (Or.inl (own_w hw 26 rfl)) Via.refl e35' f38 f39 (Or.inr ⟨(own_w hw 27 rfl), rfl, hnm⟩) (own_w hw 1 rfl) (ty := .byte) (by decide) rfl rfl (g := (mkF m 48 #[lvR o_, lvR sr_, lvI (0 : Int32), lvI (2 : Int32), .val .null, lvR nw__3] [(.int (1 : Int32)), (.ref o_)])) rfl rfl (hb hby d8_48)
    have N41 := Fr.snoc X40 N37 P11
    have f42 : Fld Z h40 o_ "java/lang/String" "coder" "B" (.int (1 : Int32)) := f38.same W40
    have f43 : Fld Z h3 o_ "java/lang/String" "value" "[B" u_value_o_ := P5.keep K3 nin0
    have f44 : Fld Z h40 o_ "java/lang/String" "value" "[B" u_value_o_ := f43.other W40 (Or.inr (slot_ne (Or.inr (own_w hw 29 rfl)) (Or.inr (own_w hw 27 rfl)) (by decide) (t := (.array .byte)) (t' := .byte) (by decide) (by decide)))
    have f45 : Exa Z h40 o_ "java/lang/String" := f39.wr W40
    obtain ⟨T46, h46, X46, e46, W46, st46⟩ := putF X40 hx hZ hown (host := "") (Or.inl (own_w hw 28 rfl)) Via.refl e40 f44 f45 (Or.inr ⟨(own_w hw 29 rfl), rfl, hnm⟩) (own_w hw 1 rfl) (ty := (.array .byte)) (by decide) rfl rfl (g := (mkF m 54 #[lvR o_, lvR sr_, lvI (0 : Int32), lvI (2 : Int32), .val .null, lvR nw__3] [(.ref nw__3), (.ref o_)])) rfl rfl (hb hby d8_54)
    have N47 := Fr.snoc X46 N41 P11
    have f48 : Fld Z h46 o_ "java/lang/String" "value" "[B" (.ref nw__3) := f44.same W46
    have pre49 : ∀ t, own_S p e below m T46 57 #[lvR o_, lvR sr_, lvI (0 : Int32), lvI (2 : Int32), .val .null, lvR nw__3] [] t → G t := by
      intro t kt
      refine pre7 t ?_
      show own_S p e below m T3 41 #[lvR o_, lvR sr_, lvI (0 : Int32), lvI (2 : Int32), .val .null, lvR nw__3] [] _
      refine XS.aloadN X3.here hx rfl (hb hby d8_41) rfl rfl ?_
      refine XS.aload X3.here hx rfl (hb hby d8_42) rfl rfl ?_
      refine XS.iloadN X3.here hx rfl (hb hby d8_44) rfl ?_
      show own_S p e below m T3 45 #[lvR o_, lvR sr_, lvI (0 : Int32), lvI (2 : Int32), .val .null, lvR nw__3] [(.int (2 : Int32)), (.ref nw__3), (.ref o_)] _
      refine st35 _ ?_
      show own_S p e below m T35 48 #[lvR o_, lvR sr_, lvI (0 : Int32), lvI (2 : Int32), .val .null, lvR nw__3] [(.int (1 : Int32)), (.ref o_)] _
      refine st40 _ ?_
      refine XS.aloadN X40.here hx rfl (hb hby d8_51) rfl rfl ?_
      refine XS.aload X40.here hx rfl (hb hby d8_52) rfl rfl ?_
      show own_S p e below m T40 54 #[lvR o_, lvR sr_, lvI (0 : Int32), lvI (2 : Int32), .val .null, lvR nw__3] [(.ref nw__3), (.ref o_)] _
      refine st46 _ ?_
      exact kt
    have f51 : Exa Z h40 nw__3 "[B" := g3_0.wr W40
    have f52 : Exa Z h46 nw__3 "[B" := f51.wr W46
    have ne54 : o_ ≠ nw__3 := Nat.ne_of_lt (Nat.lt_of_lt_of_le P3.lt sznw__3)
    have f53 : Arv Z h40 nw__3 k_w_3 .byte (4 : Int32) vs_w_3 (.int (0 : Int32)) := f34.other W40 (Ne.symm ne54)
    have f55 : Arv Z h46 nw__3 k_w_3 .byte (4 : Int32) vs_w_3 (.int (0 : Int32)) := f53.other W46 (Ne.symm ne54)
    have f56 : Keep h0 h3 [o_] := K0.trans K3 all0
    have f57 : Keep h0 h40 [o_] := f56.wr W40 (Or.inl (List.mem_of_getElem? (i := 0) rfl))
    have f58 : Keep h0 h46 [o_] := f57.wr W46 (Or.inl (List.mem_of_getElem? (i := 0) rfl))
    obtain ⟨fs, hr, hrun, hended, hW, hsame⟩ := X46.leave (v := none) (fun _ => rfl)
    refine ⟨_, _, hG _ (pre49 _ (X46.returnOut hx Bd.returns (hb hby d8_57) hr)), hrun, hended, _, _, rfl, ?_, ⟨_, rfl⟩, hW, hsame.mono (by decide) (by decide)⟩
    show QIa2 Z o_ sr_ ks_ x0_ x1_ u_coder_o_ u_value_o_ w_COMPACT_STRINGS h0 n0 _ T46.heap _
    rw [e46]
    exact ⟨k_w_3, (4 : Int32), vs_w_3, nw__3, rfl, N47, f58, sz6, f48, f52, f55, (by decide)⟩
theorem efIb2 (m : MethodId) (o_ : Addr) (sr_ : Addr) : entryFrame m #[(.ref o_), (.ref sr_)] 2 = mkF m 0 #[lvR o_, lvR sr_] [] := by first | (simp [entryFrame, mkF, argsToLocals, Value.category]; done) | rfl
def QIb2 (Z : State) (o_ : Addr) (sr_ : Addr) (ks_ : ClassId) (x0_ : Int32) (x1_ : Int32) (u_coder_o_ : Int32) (u_value_o_ : Value) (w_COMPACT_STRINGS : Int32) (h0 : Heap) (n0 : Nat) (v : Option Value) (h : Heap) (L : List Loc) : Prop := ∃ k_w : ClassId, ∃ z_w : Int32, ∃ vs_w : List Value, ∃ nw_ : Addr, v = none ∧ Fr n0 L ∧ Keep h0 h [o_] ∧ h0.size ≤ nw_ ∧ Fld Z h o_ "java/lang/String" "value" "[B" (.ref nw_) ∧ Exa Z h nw_ "[B" ∧ Arv Z h nw_ k_w .byte z_w vs_w (.int (0 : Int32)) ∧ ¬ (z_w = (0 : Int32))
set_option maxRecDepth 65536 in
set_option maxHeartbeats 40000000 in
theorem rmIb2 (l : Launch) (Z : State) (a0 : Array Value) (hw : ∀ d ∈ tables_1, d.before a0 Z = true) (ws : List Jvm.Cond) (o_ : Addr) (sr_ : Addr) (ks_ : ClassId) (x0_ : Int32) (x1_ : Int32) (u_coder_o_ : Int32) (u_value_o_ : Value) (w_COMPACT_STRINGS : Int32) (h0 : Heap) (n0 : Nat) (O0 : Old Z n0 h0) (hc0_ : own_chr x0_) (hc1_ : own_chr x1_) (hz_0 : ¬ (w_COMPACT_STRINGS = (0 : Int32))) (P3 : Exa Z h0 o_ "java/lang/String") (P4 : Fld Z h0 o_ "java/lang/String" "coder" "B" (.int u_coder_o_)) (P5 : Fld Z h0 o_ "java/lang/String" "value" "[B" u_value_o_) (P6 : Arv Z h0 sr_ ks_ .char (2 : Int32) [(.int x0_), (.int x1_)] (.int (0 : Int32))) (P7 : Sta Z Z.heap "java/lang/String" "COMPACT_STRINGS" "Z" (.int w_COMPACT_STRINGS)) (P8 : Sta Z Z.heap "java/lang/StringUTF16" "$assertionsDisabled" "Z" (.int (1 : Int32))) (P9 : Sta Z Z.heap "java/lang/StringUTF16" "HI_BYTE_SHIFT" "I" (.int (0 : Int32))) (P10 : Sta Z Z.heap "java/lang/StringUTF16" "LO_BYTE_SHIFT" "I" (.int (8 : Int32))) (P11 : n0 ≤ o_) :
    MetFree l (⟨"java/lang/String", "<init>", "([C)V"⟩ : MethodName) (head1 (Jvm.Cond.code (⟨"java/lang/String", "<init>", "([C)V"⟩ : MethodName) jdk_42_method_3_code 2 none :: ws) ({ frames := 5, cells := 2, slots := 6, locals := 74 } : Room)) (fun a U => a = #[(.ref o_), (.ref sr_)] ∧ Z.Warmed39 U.vm ∧ U.heap = h0) (fun _ _ _ _ _ => True) (fun _ U o U' => ∃ v L, o = .returned v ∧ QIb2 Z o_ sr_ ks_ x0_ x1_ u_coder_o_ u_value_o_ w_COMPACT_STRINGS h0 n0 v U'.heap L ∧ FrameEnd U o U' L ({ frames := 5, cells := 2, slots := 6, locals := 74 } : Room).cells ({ frames := 5, cells := 2, slots := 6, locals := 74 } : Room).slots) := by
  refine MetFree.of_bodySF (plainFor_of_name pn_1) hisR ?_
  intro p e s m args below meth c s₁ Bd hml0 hP hK
  obtain ⟨rfl, hZ, hh⟩ := hP
  have hx := Bd.exec
  have hby := Bd.bytes
  have hml : c.maxLocals = 2 := hml0
  have hown : s.vm.findClass "java/lang/String" = some m.cls := findClass_of_methodNamed Bd.named
  have hnm := (name_of_methodNamed Bd.named Bd.method).1
  have X0 : Stand p l e ({ frames := 5, cells := 2, slots := 6, locals := 74 } : Room) s m #[(.ref o_), (.ref sr_)] below meth c s₁ [] 0 0 := Stand.of_body Bd
  have e0 : s₁.heap = h0 := by rw [← hh, Bd.state]; rfl
  have N0 := Fr.nil n0
  obtain ⟨G, pre0, hG⟩ : ∃ G : State → Prop, (∀ t, own_S p e below m s₁ 0 #[lvR o_, lvR sr_] [] t → G t) ∧ (∀ t, G t → Steps p.tables e below (s₁.setTop (entryFrame m #[(.ref o_), (.ref sr_)] 2)) t) := ⟨fun t => Steps p.tables e below (s₁.setTop (entryFrame m #[(.ref o_), (.ref sr_)] 2)) t, fun t k => castTop (efIb2 m o_ sr_) k, fun _ k => k⟩
  have K0 : Keep h0 h0 [o_] := Keep.refl _ _
  obtain ⟨c1, r1, q1, s1, z1, y1, G1⟩ := id P6
  obtain ⟨_, _, ⟨T2, L2, k2, n2⟩, -, X2, ⟨Lc2, hQ2, l2, y2, z2⟩, st2⟩ := X0.specialBack hx (y := (⟨"java/lang/String", "<init>", "([CIILjava/lang/Void;)V"⟩ : MethodName)) rfl hown (mvT hZ (own_w hw 7 rfl)) (mvT hZ (own_w hw 8 rfl)) (mvT hZ (own_w hw 10 rfl)) (by decide) (backOf (W := 0) (rmIa2 l Z a0 hw [] o_ sr_ ks_ x0_ x1_ u_coder_o_ u_value_o_ w_COMPACT_STRINGS h0 n0 O0 hc0_ hc1_ hz_0 P3 P4 P5 P6 P7 P8 P9 P10 P11) hZ (own_w hw 10 rfl) (own_w hw 2 rfl) (by decide) (by decide)) (g := (mkF m 6 #[lvR o_, lvR sr_] [.null, (.int (2 : Int32)), (.int (0 : Int32)), (.ref sr_), (.ref o_)])) rfl (by rw [hml]; rfl) (Steps.refl _) (a := o_) (argsL := [(.ref sr_), (.int (0 : Int32)), (.int (2 : Int32)), .null]) (rest := []) (lenOf pd_7 rfl) rfl (by show 2 * 0 + _ ≤ _; exact Nat.le_of_eq rfl) (hb hby d10_6) (fun _ _ => ⟨rfl, e0, (by decide : 0 + 2 ≤ _), (by decide : 0 + 6 ≤ _)⟩)
  dsimp only [Pt.U, Pt.locs, Pt.cells, Pt.slots] at X2 l2 y2 z2 st2 hQ2
  subst l2 y2 z2
  obtain ⟨h2, e2⟩ : ∃ z, T2.heap = z := ⟨_, rfl⟩
  rw [e2] at hQ2
  obtain ⟨k_w_2, z_w_2, vs_w_2, nw__2, rfl, N2q, K2, sznw__2, g2_0, g2_1, g2_2, qx2_0⟩ := hQ2
  have N3 := Fr.app N0 N2q
  have ge4 : n0 ≤ nw__2 := Nat.le_trans (Nat.le_trans (Nat.le_of_eq O0.1.symm) O0.2.1) sznw__2
  have sz5 : h0.size ≤ nw__2 := Nat.le_trans K0.1 sznw__2
  have pre6 : ∀ t, own_S p e below m T2 9 #[lvR o_, lvR sr_] [] t → G t := by
    intro t kt
    refine pre0 t ?_
    show own_S p e below m s₁ 0 #[lvR o_, lvR sr_] [] _
    refine XS.aloadN X0.here hx rfl (hb hby d10_0) rfl rfl ?_
    refine XS.aloadN X0.here hx rfl (hb hby d10_1) rfl rfl ?_
    refine XS.iconst X0.here hx rfl (hb hby d10_2) ?_
    refine XS.aloadN X0.here hx rfl (hb hby d10_3) rfl rfl ?_
    show own_S p e below m s₁ 4 #[lvR o_, lvR sr_] [(.ref sr_), (.int (0 : Int32)), (.ref sr_), (.ref o_)] _
    refine X0.arraylength hx (by rw [e0]; exact r1.1) (State.isArrayOf_alike hZ.alike r1.2.1) (g := (mkF m 4 #[lvR o_, lvR sr_] [(.ref sr_), (.int (0 : Int32)), (.ref sr_), (.ref o_)])) rfl rfl (hb hby d10_4) _ ?_
    rw [len_of s1 z1]
    refine XS.aconstNull X0.here hx rfl (hb hby d10_5) ?_
    show own_S p e below m s₁ 6 #[lvR o_, lvR sr_] [.null, (.int (2 : Int32)), (.int (0 : Int32)), (.ref sr_), (.ref o_)] _
    refine st2.trans ?_
    exact kt
  have f8 : Keep h0 h2 [o_] := K0.trans K2 (allS (Or.inl (List.mem_of_getElem? (i := 0) rfl)) all0)
  obtain ⟨fs, hr, hrun, hended, hW, hsame⟩ := X2.leave (v := none) (fun _ => rfl)
  refine ⟨_, _, hG _ (pre6 _ (X2.returnOut hx Bd.returns (hb hby d10_9) hr)), hrun, hended, _, _, rfl, ?_, ⟨_, rfl⟩, hW, hsame.mono (by decide) (by decide)⟩
  show QIb2 Z o_ sr_ ks_ x0_ x1_ u_coder_o_ u_value_o_ w_COMPACT_STRINGS h0 n0 _ T2.heap _
  rw [e2]
  exact ⟨k_w_2, z_w_2, vs_w_2, nw__2, rfl, N3, f8, sz5, g2_0, g2_1, g2_2, qx2_0⟩
theorem efCp3 (m : MethodId) (sr_ : Addr) (ds_ : Addr) : entryFrame m #[(.ref sr_), (.int (0 : Int32)), (.ref ds_), (.int (0 : Int32)), (.int (3 : Int32))] 7 = mkF m 0 #[lvR sr_, lvI (0 : Int32), lvR ds_, lvI (0 : Int32), lvI (3 : Int32), .unset, .unset] [] := by first | (simp [entryFrame, mkF, argsToLocals, Value.category]; done) | rfl
def QCp3 (Z : State) (sr_ : Addr) (ks_ : ClassId) (ds_ : Addr) (kd_ : ClassId) (x0_ : Int32) (x1_ : Int32) (x2_ : Int32) (h0 : Heap) (n0 : Nat) (v : Option Value) (h : Heap) (L : List Loc) : Prop := ∃ vs_w : List Value, ∃ r_ : Int32, v = some (.int r_) ∧ (((0 : Int32) = r_ ∧ ((255 : Int32) < x0_)) ∨ ((1 : Int32) = r_ ∧ (¬ ((255 : Int32) < x0_)) ∧ ((255 : Int32) < x1_)) ∨ ((2 : Int32) = r_ ∧ (¬ ((255 : Int32) < x0_)) ∧ (¬ ((255 : Int32) < x1_)) ∧ ((255 : Int32) < x2_)) ∨ ((3 : Int32) = r_ ∧ (¬ ((255 : Int32) < x0_)) ∧ (¬ ((255 : Int32) < x1_)) ∧ (¬ ((255 : Int32) < x2_)))) ∧ Fr n0 L ∧ Keep h0 h [ds_] ∧ Arv Z h ds_ kd_ .byte (3 : Int32) vs_w (.int (0 : Int32))
set_option maxRecDepth 65536 in
set_option maxHeartbeats 40000000 in
theorem rmCp3 (l : Launch) (Z : State) (a0 : Array Value) (hw : ∀ d ∈ tables_1, d.before a0 Z = true) (ws : List Jvm.Cond) (sr_ : Addr) (ks_ : ClassId) (ds_ : Addr) (kd_ : ClassId) (x0_ : Int32) (x1_ : Int32) (x2_ : Int32) (h0 : Heap) (n0 : Nat) (O0 : Old Z n0 h0) (P0 : Arv Z h0 sr_ ks_ .char (3 : Int32) [(.int x0_), (.int x1_), (.int x2_)] (.int (0 : Int32))) (P1 : Arv Z h0 ds_ kd_ .byte (3 : Int32) [(.int (0 : Int32)), (.int (0 : Int32)), (.int (0 : Int32))] (.int (0 : Int32))) (P2 : n0 ≤ ds_) (P3 : sr_ ≠ ds_) :
    MetFree l (⟨"java/lang/StringUTF16", "compress", "([CI[BII)I"⟩ : MethodName) (head1 (Jvm.Cond.code (⟨"java/lang/StringUTF16", "compress", "([CI[BII)I"⟩ : MethodName) jdk_52_method_21_code 7 (some .int) :: ws) ({ frames := 0, cells := 0, slots := 0, locals := 0 } : Room)) (fun a U => a = #[(.ref sr_), (.int (0 : Int32)), (.ref ds_), (.int (0 : Int32)), (.int (3 : Int32))] ∧ Z.Warmed39 U.vm ∧ U.heap = h0) (fun _ _ _ _ _ => True) (fun _ U o U' => ∃ v L, o = .returned v ∧ QCp3 Z sr_ ks_ ds_ kd_ x0_ x1_ x2_ h0 n0 v U'.heap L ∧ FrameEnd U o U' L ({ frames := 0, cells := 0, slots := 0, locals := 0 } : Room).cells ({ frames := 0, cells := 0, slots := 0, locals := 0 } : Room).slots) := by
  refine MetFree.of_bodySF (plainFor_of_name pn_0) hisR ?_
  intro p e s m args below meth c s₁ Bd hml0 hP hK
  obtain ⟨rfl, hZ, hh⟩ := hP
  have hx := Bd.exec
  have hby := Bd.bytes
  have hml : c.maxLocals = 7 := hml0
  have hown : s.vm.findClass "java/lang/StringUTF16" = some m.cls := findClass_of_methodNamed Bd.named
  have hnm := (name_of_methodNamed Bd.named Bd.method).1
  have X0 : Stand p l e ({ frames := 0, cells := 0, slots := 0, locals := 0 } : Room) s m #[(.ref sr_), (.int (0 : Int32)), (.ref ds_), (.int (0 : Int32)), (.int (3 : Int32))] below meth c s₁ [] 0 0 := Stand.of_body Bd
  have e0 : s₁.heap = h0 := by rw [← hh, Bd.state]; rfl
  have N0 := Fr.nil n0
  obtain ⟨G, pre0, hG⟩ : ∃ G : State → Prop, (∀ t, own_S p e below m s₁ 0 #[lvR sr_, lvI (0 : Int32), lvR ds_, lvI (0 : Int32), lvI (3 : Int32), .unset, .unset] [] t → G t) ∧ (∀ t, G t → Steps p.tables e below (s₁.setTop (entryFrame m #[(.ref sr_), (.int (0 : Int32)), (.ref ds_), (.int (0 : Int32)), (.int (3 : Int32))] 7)) t) := ⟨fun t => Steps p.tables e below (s₁.setTop (entryFrame m #[(.ref sr_), (.int (0 : Int32)), (.ref ds_), (.int (0 : Int32)), (.int (3 : Int32))] 7)) t, fun t k => castTop (efCp3 m sr_ ds_) k, fun _ k => k⟩
  have K0 : Keep h0 h0 [ds_] := Keep.refl _ _
  obtain ⟨c1, r1, q1, s1, z1, y1, G1⟩ := id P0
  have hin1 : ¬ ((0 : Int32) < 0 ∨ c1.slots.size ≤ ((0 : Int32)).toNatClampNeg) := inb_of s1 ⟨by decide, by decide⟩
  have hat1 : c1.slots[((0 : Int32)).toNatClampNeg]? = some (.int x0_) := Has.at y1 hin1 rfl
  have pre2 : ∀ t, own_S p e below m s₁ 20 #[lvR sr_, lvI (0 : Int32), lvR ds_, lvI (0 : Int32), lvI (3 : Int32), lvI (0 : Int32), lvI x0_] [(.int (255 : Int32)), (.int x0_)] t → G t := by
    intro t kt
    refine pre0 t ?_
    show own_S p e below m s₁ 0 #[lvR sr_, lvI (0 : Int32), lvR ds_, lvI (0 : Int32), lvI (3 : Int32), .unset, .unset] [] _
    refine XS.iconst X0.here hx rfl (hb hby d1_0) ?_
    refine XS.istore X0.here hx rfl (hb hby d1_1) rfl (l' := #[lvR sr_, lvI (0 : Int32), lvR ds_, lvI (0 : Int32), lvI (3 : Int32), lvI (0 : Int32), .unset]) rfl ?_
    refine XS.iload X0.here hx rfl (hb hby d1_3) rfl ?_
    refine XS.iload X0.here hx rfl (hb hby d1_5) rfl ?_
    show own_S p e below m s₁ 7 #[lvR sr_, lvI (0 : Int32), lvR ds_, lvI (0 : Int32), lvI (3 : Int32), lvI (0 : Int32), .unset] [(.int (3 : Int32)), (.int (0 : Int32))] _
    refine XS.icmpNo X0.here hx rfl (hb hby d1_7) rfl (tlt (by decide : (0 : Int32) < (3 : Int32))).2.1 ?_
    refine XS.aloadN X0.here hx rfl (hb hby d1_10) rfl rfl ?_
    refine XS.iloadN X0.here hx rfl (hb hby d1_11) rfl ?_
    show own_S p e below m s₁ 12 #[lvR sr_, lvI (0 : Int32), lvR ds_, lvI (0 : Int32), lvI (3 : Int32), lvI (0 : Int32), .unset] [(.int (0 : Int32)), (.ref sr_)] _
    refine X0.caload hx (j := (0 : Int32)) (v := (.int x0_)) (by rw [e0]; exact r1.1) (State.isArrayOf_alike hZ.alike r1.2.1) r1.2.2 hin1 hat1 (g := (mkF m 12 #[lvR sr_, lvI (0 : Int32), lvR ds_, lvI (0 : Int32), lvI (3 : Int32), lvI (0 : Int32), .unset] [(.int (0 : Int32)), (.ref sr_)])) rfl rfl (hb hby d1_12) _ ?_
    refine XS.istore X0.here hx rfl (hb hby d1_13) rfl (l' := #[lvR sr_, lvI (0 : Int32), lvR ds_, lvI (0 : Int32), lvI (3 : Int32), lvI (0 : Int32), lvI x0_]) rfl ?_
    refine XS.iload X0.here hx rfl (hb hby d1_15) rfl ?_
    refine XS.sipush X0.here hx rfl (hb hby d1_17) ?_
    exact kt
  by_cases hc3 : (255 : Int32) < x0_
  · have pre4 : ∀ t, own_S p e below m s₁ 25 #[lvR sr_, lvI (0 : Int32), lvR ds_, lvI (0 : Int32), lvI (3 : Int32), lvI (0 : Int32), lvI x0_] [(.int (0 : Int32))] t → G t := by
      intro t kt
      refine pre2 t ?_
      show own_S p e below m s₁ 20 #[lvR sr_, lvI (0 : Int32), lvR ds_, lvI (0 : Int32), lvI (3 : Int32), lvI (0 : Int32), lvI x0_] [(.int (255 : Int32)), (.int x0_)] _
      refine XS.icmpNo X0.here hx rfl (hb hby d1_20) rfl (tlt hc3).2.2.2 ?_
      refine XS.iload X0.here hx rfl (hb hby d1_23) rfl ?_
      exact kt
    obtain ⟨fs, hr, hrun, hended, hW, hsame⟩ := X0.leave (v := some (.int (0 : Int32))) (fun h => by rw [Bd.returns] at h; cases h)
    refine ⟨_, _, hG _ (pre4 _ (retOut X0 hx Bd.returns rfl (Or.inl ⟨rfl, Or.inl rfl, _, rfl⟩) (hb hby d1_25) hr)), hrun, hended, _, _, rfl, ?_, ⟨_, rfl⟩, hW, hsame.mono (by decide) (by decide)⟩
    show QCp3 Z sr_ ks_ ds_ kd_ x0_ x1_ x2_ h0 n0 _ s₁.heap _
    rw [e0]
    exact ⟨[(.int (0 : Int32)), (.int (0 : Int32)), (.int (0 : Int32))], (0 : Int32), rfl, (Or.inl ⟨rfl, hc3⟩), N0, K0, P1⟩
  · obtain ⟨c6, r6, q6, s6, z6, y6, G6⟩ := id P1
    have hin6 : ¬ ((0 : Int32) < 0 ∨ c6.slots.size ≤ ((0 : Int32)).toNatClampNeg) := inb_of s6 ⟨by decide, by decide⟩
    obtain ⟨T6, h6, X6, e6, W6, st6⟩ := stB X0 hx hZ e0 r6 (j := (0 : Int32)) hin6 (g := (mkF m 31 #[lvR sr_, lvI (0 : Int32), lvR ds_, lvI (0 : Int32), lvI (3 : Int32), lvI (0 : Int32), lvI x0_] [(.int (x0_.toInt8.toInt32)), (.int (0 : Int32)), (.ref ds_)])) rfl rfl (hb hby d1_31)
    have N7 := Fr.snoc X6 N0 P2
    have f8 : Arv Z h6 ds_ kd_ .byte (3 : Int32) [(.int ((x0_.toInt8.toInt32).toInt8.toInt32)), (.int (0 : Int32)), (.int (0 : Int32))] (.int (0 : Int32)) := Arv.set r6 q6 s6 z6 y6 G6 (fits_nar_byte _) W6 0 rfl (Nat.le_of_ble_eq_true rfl)
    have f9 : Arv Z h6 ds_ kd_ .byte (3 : Int32) [(.int (x0_.toInt8.toInt32)), (.int (0 : Int32)), (.int (0 : Int32))] (.int (0 : Int32)) := by have q := f8; rw [own_i2b2] at q; exact q
    have f10 : Arv Z h6 sr_ ks_ .char (3 : Int32) [(.int x0_), (.int x1_), (.int x2_)] (.int (0 : Int32)) := P0.other W6 P3
    obtain ⟨c11, r11, q11, s11, z11, y11, G11⟩ := id f10
    have hin11 : ¬ ((1 : Int32) < 0 ∨ c11.slots.size ≤ ((1 : Int32)).toNatClampNeg) := inb_of s11 ⟨by decide, by decide⟩
    have hat11 : c11.slots[((1 : Int32)).toNatClampNeg]? = some (.int x1_) := Has.at y11 hin11 rfl
    have pre12 : ∀ t, own_S p e below m T6 20 #[lvR sr_, lvI (1 : Int32), lvR ds_, lvI (1 : Int32), lvI (3 : Int32), lvI (1 : Int32), lvI x1_] [(.int (255 : Int32)), (.int x1_)] t → G t := by
      intro t kt
      refine pre2 t ?_
      show own_S p e below m s₁ 20 #[lvR sr_, lvI (0 : Int32), lvR ds_, lvI (0 : Int32), lvI (3 : Int32), lvI (0 : Int32), lvI x0_] [(.int (255 : Int32)), (.int x0_)] _
      refine XS.icmpYes X0.here hx rfl (pc0 := 20) (pc' := 26) rfl (hb hby d1_20) rfl (flt hc3).2.2.2 (by decide) (by decide) ?_
      refine XS.aloadN X0.here hx rfl (hb hby d1_26) rfl rfl ?_
      refine XS.iloadN X0.here hx rfl (hb hby d1_27) rfl ?_
      refine XS.iload X0.here hx rfl (hb hby d1_28) rfl ?_
      show own_S p e below m s₁ 30 #[lvR sr_, lvI (0 : Int32), lvR ds_, lvI (0 : Int32), lvI (3 : Int32), lvI (0 : Int32), lvI x0_] [(.int x0_), (.int (0 : Int32)), (.ref ds_)] _
      refine XS.i2b X0.here hx rfl (hb hby d1_30) rfl ?_
      show own_S p e below m s₁ 31 #[lvR sr_, lvI (0 : Int32), lvR ds_, lvI (0 : Int32), lvI (3 : Int32), lvI (0 : Int32), lvI x0_] [(.int (x0_.toInt8.toInt32)), (.int (0 : Int32)), (.ref ds_)] _
      refine st6 _ ?_
      refine XS.iinc X6.here hx rfl (hb hby d1_32) rfl (l' := #[lvR sr_, lvI (1 : Int32), lvR ds_, lvI (0 : Int32), lvI (3 : Int32), lvI (0 : Int32), lvI x0_]) rfl ?_
      refine XS.iinc X6.here hx rfl (hb hby d1_35) rfl (l' := #[lvR sr_, lvI (1 : Int32), lvR ds_, lvI (1 : Int32), lvI (3 : Int32), lvI (0 : Int32), lvI x0_]) rfl ?_
      refine XS.iinc X6.here hx rfl (hb hby d1_38) rfl (l' := #[lvR sr_, lvI (1 : Int32), lvR ds_, lvI (1 : Int32), lvI (3 : Int32), lvI (1 : Int32), lvI x0_]) rfl ?_
      refine XS.goto X6.here hx rfl (pc0 := 41) (pc' := 3) rfl (hb hby d1_41) (by decide) (by decide) ?_
      refine XS.iload X6.here hx rfl (hb hby d1_3) rfl ?_
      show own_S p e below m T6 5 #[lvR sr_, lvI (1 : Int32), lvR ds_, lvI (1 : Int32), lvI (3 : Int32), lvI (1 : Int32), lvI x0_] [(.int (1 : Int32))] _
      refine XS.iload X6.here hx rfl (hb hby d1_5) rfl ?_
      show own_S p e below m T6 7 #[lvR sr_, lvI (1 : Int32), lvR ds_, lvI (1 : Int32), lvI (3 : Int32), lvI (1 : Int32), lvI x0_] [(.int (3 : Int32)), (.int (1 : Int32))] _
      refine XS.icmpNo X6.here hx rfl (hb hby d1_7) rfl (tlt (by decide : (1 : Int32) < (3 : Int32))).2.1 ?_
      refine XS.aloadN X6.here hx rfl (hb hby d1_10) rfl rfl ?_
      refine XS.iloadN X6.here hx rfl (hb hby d1_11) rfl ?_
      show own_S p e below m T6 12 #[lvR sr_, lvI (1 : Int32), lvR ds_, lvI (1 : Int32), lvI (3 : Int32), lvI (1 : Int32), lvI x0_] [(.int (1 : Int32)), (.ref sr_)] _
      refine X6.caload hx (j := (1 : Int32)) (v := (.int x1_)) (by rw [e6]; exact r11.1) (State.isArrayOf_alike hZ.alike r11.2.1) r11.2.2 hin11 hat11 (g := (mkF m 12 #[lvR sr_, lvI (1 : Int32), lvR ds_, lvI (1 : Int32), lvI (3 : Int32), lvI (1 : Int32), lvI x0_] [(.int (1 : Int32)), (.ref sr_)])) rfl rfl (hb hby d1_12) _ ?_
      refine XS.istore X6.here hx rfl (hb hby d1_13) rfl (l' := #[lvR sr_, lvI (1 : Int32), lvR ds_, lvI (1 : Int32), lvI (3 : Int32), lvI (1 : Int32), lvI x1_]) rfl ?_
      refine XS.iload X6.here hx rfl (hb hby d1_15) rfl ?_
      refine XS.sipush X6.here hx rfl (hb hby d1_17) ?_
      exact kt
    by_cases hc13 : (255 : Int32) < x1_
    · have pre14 : ∀ t, own_S p e below m T6 25 #[lvR sr_, lvI (1 : Int32), lvR ds_, lvI (1 : Int32), lvI (3 : Int32), lvI (1 : Int32), lvI x1_] [(.int (1 : Int32))] t → G t := by
        intro t kt
        refine pre12 t ?_
        show own_S p e below m T6 20 #[lvR sr_, lvI (1 : Int32), lvR ds_, lvI (1 : Int32), lvI (3 : Int32), lvI (1 : Int32), lvI x1_] [(.int (255 : Int32)), (.int x1_)] _
        refine XS.icmpNo X6.here hx rfl (hb hby d1_20) rfl (tlt hc13).2.2.2 ?_
        refine XS.iload X6.here hx rfl (hb hby d1_23) rfl ?_
        exact kt
      have f16 : Keep h0 h6 [ds_] := K0.wr W6 (Or.inl (List.mem_of_getElem? (i := 0) rfl))
      obtain ⟨fs, hr, hrun, hended, hW, hsame⟩ := X6.leave (v := some (.int (1 : Int32))) (fun h => by rw [Bd.returns] at h; cases h)
      refine ⟨_, _, hG _ (pre14 _ (retOut X6 hx Bd.returns rfl (Or.inl ⟨rfl, Or.inl rfl, _, rfl⟩) (hb hby d1_25) hr)), hrun, hended, _, _, rfl, ?_, ⟨_, rfl⟩, hW, hsame.mono (by decide) (by decide)⟩
      show QCp3 Z sr_ ks_ ds_ kd_ x0_ x1_ x2_ h0 n0 _ T6.heap _
      rw [e6]
      exact ⟨[(.int (x0_.toInt8.toInt32)), (.int (0 : Int32)), (.int (0 : Int32))], (1 : Int32), rfl, (Or.inr (Or.inl ⟨rfl, hc3, hc13⟩)), N7, f16, f9⟩
    · obtain ⟨c17, r17, q17, s17, z17, y17, G17⟩ := id f9
      have hin17 : ¬ ((1 : Int32) < 0 ∨ c17.slots.size ≤ ((1 : Int32)).toNatClampNeg) := inb_of s17 ⟨by decide, by decide⟩
      obtain ⟨T17, h17, X17, e17, W17, st17⟩ := stB X6 hx hZ e6 r17 (j := (1 : Int32)) hin17 (g := (mkF m 31 #[lvR sr_, lvI (1 : Int32), lvR ds_, lvI (1 : Int32), lvI (3 : Int32), lvI (1 : Int32), lvI x1_] [(.int (x1_.toInt8.toInt32)), (.int (1 : Int32)), (.ref ds_)])) rfl rfl (hb hby d1_31)
      have N18 := Fr.snoc X17 N7 P2
      have f19 : Arv Z h17 ds_ kd_ .byte (3 : Int32) [(.int (x0_.toInt8.toInt32)), (.int ((x1_.toInt8.toInt32).toInt8.toInt32)), (.int (0 : Int32))] (.int (0 : Int32)) := Arv.set r17 q17 s17 z17 y17 G17 (fits_nar_byte _) W17 1 rfl (Nat.le_of_ble_eq_true rfl)
      have f20 : Arv Z h17 ds_ kd_ .byte (3 : Int32) [(.int (x0_.toInt8.toInt32)), (.int (x1_.toInt8.toInt32)), (.int (0 : Int32))] (.int (0 : Int32)) := by have q := f19; rw [own_i2b2] at q; exact q
      have f21 : Arv Z h17 sr_ ks_ .char (3 : Int32) [(.int x0_), (.int x1_), (.int x2_)] (.int (0 : Int32)) := f10.other W17 P3
      obtain ⟨c22, r22, q22, s22, z22, y22, G22⟩ := id f21
      have hin22 : ¬ ((2 : Int32) < 0 ∨ c22.slots.size ≤ ((2 : Int32)).toNatClampNeg) := inb_of s22 ⟨by decide, by decide⟩
      have hat22 : c22.slots[((2 : Int32)).toNatClampNeg]? = some (.int x2_) := Has.at y22 hin22 rfl
      have pre23 : ∀ t, own_S p e below m T17 20 #[lvR sr_, lvI (2 : Int32), lvR ds_, lvI (2 : Int32), lvI (3 : Int32), lvI (2 : Int32), lvI x2_] [(.int (255 : Int32)), (.int x2_)] t → G t := by
        intro t kt
        refine pre12 t ?_
        show own_S p e below m T6 20 #[lvR sr_, lvI (1 : Int32), lvR ds_, lvI (1 : Int32), lvI (3 : Int32), lvI (1 : Int32), lvI x1_] [(.int (255 : Int32)), (.int x1_)] _
        refine XS.icmpYes X6.here hx rfl (pc0 := 20) (pc' := 26) rfl (hb hby d1_20) rfl (flt hc13).2.2.2 (by decide) (by decide) ?_
        refine XS.aloadN X6.here hx rfl (hb hby d1_26) rfl rfl ?_
        refine XS.iloadN X6.here hx rfl (hb hby d1_27) rfl ?_
        refine XS.iload X6.here hx rfl (hb hby d1_28) rfl ?_
        show own_S p e below m T6 30 #[lvR sr_, lvI (1 : Int32), lvR ds_, lvI (1 : Int32), lvI (3 : Int32), lvI (1 : Int32), lvI x1_] [(.int x1_), (.int (1 : Int32)), (.ref ds_)] _
        refine XS.i2b X6.here hx rfl (hb hby d1_30) rfl ?_
        show own_S p e below m T6 31 #[lvR sr_, lvI (1 : Int32), lvR ds_, lvI (1 : Int32), lvI (3 : Int32), lvI (1 : Int32), lvI x1_] [(.int (x1_.toInt8.toInt32)), (.int (1 : Int32)), (.ref ds_)] _
        refine st17 _ ?_
        refine XS.iinc X17.here hx rfl (hb hby d1_32) rfl (l' := #[lvR sr_, lvI (2 : Int32), lvR ds_, lvI (1 : Int32), lvI (3 : Int32), lvI (1 : Int32), lvI x1_]) rfl ?_
        refine XS.iinc X17.here hx rfl (hb hby d1_35) rfl (l' := #[lvR sr_, lvI (2 : Int32), lvR ds_, lvI (2 : Int32), lvI (3 : Int32), lvI (1 : Int32), lvI x1_]) rfl ?_
        refine XS.iinc X17.here hx rfl (hb hby d1_38) rfl (l' := #[lvR sr_, lvI (2 : Int32), lvR ds_, lvI (2 : Int32), lvI (3 : Int32), lvI (2 : Int32), lvI x1_]) rfl ?_
        refine XS.goto X17.here hx rfl (pc0 := 41) (pc' := 3) rfl (hb hby d1_41) (by decide) (by decide) ?_
        refine XS.iload X17.here hx rfl (hb hby d1_3) rfl ?_
        show own_S p e below m T17 5 #[lvR sr_, lvI (2 : Int32), lvR ds_, lvI (2 : Int32), lvI (3 : Int32), lvI (2 : Int32), lvI x1_] [(.int (2 : Int32))] _
        refine XS.iload X17.here hx rfl (hb hby d1_5) rfl ?_
        show own_S p e below m T17 7 #[lvR sr_, lvI (2 : Int32), lvR ds_, lvI (2 : Int32), lvI (3 : Int32), lvI (2 : Int32), lvI x1_] [(.int (3 : Int32)), (.int (2 : Int32))] _
        refine XS.icmpNo X17.here hx rfl (hb hby d1_7) rfl (tlt (by decide : (2 : Int32) < (3 : Int32))).2.1 ?_
        refine XS.aloadN X17.here hx rfl (hb hby d1_10) rfl rfl ?_
        refine XS.iloadN X17.here hx rfl (hb hby d1_11) rfl ?_
        show own_S p e below m T17 12 #[lvR sr_, lvI (2 : Int32), lvR ds_, lvI (2 : Int32), lvI (3 : Int32), lvI (2 : Int32), lvI x1_] [(.int (2 : Int32)), (.ref sr_)] _
        refine X17.caload hx (j := (2 : Int32)) (v := (.int x2_)) (by rw [e17]; exact r22.1) (State.isArrayOf_alike hZ.alike r22.2.1) r22.2.2 hin22 hat22 (g := (mkF m 12 #[lvR sr_, lvI (2 : Int32), lvR ds_, lvI (2 : Int32), lvI (3 : Int32), lvI (2 : Int32), lvI x1_] [(.int (2 : Int32)), (.ref sr_)])) rfl rfl (hb hby d1_12) _ ?_
        refine XS.istore X17.here hx rfl (hb hby d1_13) rfl (l' := #[lvR sr_, lvI (2 : Int32), lvR ds_, lvI (2 : Int32), lvI (3 : Int32), lvI (2 : Int32), lvI x2_]) rfl ?_
        refine XS.iload X17.here hx rfl (hb hby d1_15) rfl ?_
        refine XS.sipush X17.here hx rfl (hb hby d1_17) ?_
        exact kt
      by_cases hc24 : (255 : Int32) < x2_
      · have pre25 : ∀ t, own_S p e below m T17 25 #[lvR sr_, lvI (2 : Int32), lvR ds_, lvI (2 : Int32), lvI (3 : Int32), lvI (2 : Int32), lvI x2_] [(.int (2 : Int32))] t → G t := by
          intro t kt
          refine pre23 t ?_
          show own_S p e below m T17 20 #[lvR sr_, lvI (2 : Int32), lvR ds_, lvI (2 : Int32), lvI (3 : Int32), lvI (2 : Int32), lvI x2_] [(.int (255 : Int32)), (.int x2_)] _
          refine XS.icmpNo X17.here hx rfl (hb hby d1_20) rfl (tlt hc24).2.2.2 ?_
          refine XS.iload X17.here hx rfl (hb hby d1_23) rfl ?_
          exact kt
        have f27 : Keep h0 h6 [ds_] := K0.wr W6 (Or.inl (List.mem_of_getElem? (i := 0) rfl))
        have f28 : Keep h0 h17 [ds_] := f27.wr W17 (Or.inl (List.mem_of_getElem? (i := 0) rfl))
        obtain ⟨fs, hr, hrun, hended, hW, hsame⟩ := X17.leave (v := some (.int (2 : Int32))) (fun h => by rw [Bd.returns] at h; cases h)
        refine ⟨_, _, hG _ (pre25 _ (retOut X17 hx Bd.returns rfl (Or.inl ⟨rfl, Or.inl rfl, _, rfl⟩) (hb hby d1_25) hr)), hrun, hended, _, _, rfl, ?_, ⟨_, rfl⟩, hW, hsame.mono (by decide) (by decide)⟩
        show QCp3 Z sr_ ks_ ds_ kd_ x0_ x1_ x2_ h0 n0 _ T17.heap _
        rw [e17]
        exact ⟨[(.int (x0_.toInt8.toInt32)), (.int (x1_.toInt8.toInt32)), (.int (0 : Int32))], (2 : Int32), rfl, (Or.inr (Or.inr (Or.inl ⟨rfl, hc3, hc13, hc24⟩))), N18, f28, f20⟩
      · obtain ⟨c29, r29, q29, s29, z29, y29, G29⟩ := id f20
        have hin29 : ¬ ((2 : Int32) < 0 ∨ c29.slots.size ≤ ((2 : Int32)).toNatClampNeg) := inb_of s29 ⟨by decide, by decide⟩
        obtain ⟨T29, h29, X29, e29, W29, st29⟩ := stB X17 hx hZ e17 r29 (j := (2 : Int32)) hin29 (g := (mkF m 31 #[lvR sr_, lvI (2 : Int32), lvR ds_, lvI (2 : Int32), lvI (3 : Int32), lvI (2 : Int32), lvI x2_] [(.int (x2_.toInt8.toInt32)), (.int (2 : Int32)), (.ref ds_)])) rfl rfl (hb hby d1_31)
        have N30 := Fr.snoc X29 N18 P2
        have f31 : Arv Z h29 ds_ kd_ .byte (3 : Int32) [(.int (x0_.toInt8.toInt32)), (.int (x1_.toInt8.toInt32)), (.int ((x2_.toInt8.toInt32).toInt8.toInt32))] (.int (0 : Int32)) := Arv.set r29 q29 s29 z29 y29 G29 (fits_nar_byte _) W29 2 rfl (Nat.le_of_ble_eq_true rfl)
        have f32 : Arv Z h29 ds_ kd_ .byte (3 : Int32) [(.int (x0_.toInt8.toInt32)), (.int (x1_.toInt8.toInt32)), (.int (x2_.toInt8.toInt32))] (.int (0 : Int32)) := by have q := f31; rw [own_i2b2] at q; exact q
        have pre33 : ∀ t, own_S p e below m T29 46 #[lvR sr_, lvI (3 : Int32), lvR ds_, lvI (3 : Int32), lvI (3 : Int32), lvI (3 : Int32), lvI x2_] [(.int (3 : Int32))] t → G t := by
          intro t kt
          refine pre23 t ?_
          show own_S p e below m T17 20 #[lvR sr_, lvI (2 : Int32), lvR ds_, lvI (2 : Int32), lvI (3 : Int32), lvI (2 : Int32), lvI x2_] [(.int (255 : Int32)), (.int x2_)] _
          refine XS.icmpYes X17.here hx rfl (pc0 := 20) (pc' := 26) rfl (hb hby d1_20) rfl (flt hc24).2.2.2 (by decide) (by decide) ?_
          refine XS.aloadN X17.here hx rfl (hb hby d1_26) rfl rfl ?_
          refine XS.iloadN X17.here hx rfl (hb hby d1_27) rfl ?_
          refine XS.iload X17.here hx rfl (hb hby d1_28) rfl ?_
          show own_S p e below m T17 30 #[lvR sr_, lvI (2 : Int32), lvR ds_, lvI (2 : Int32), lvI (3 : Int32), lvI (2 : Int32), lvI x2_] [(.int x2_), (.int (2 : Int32)), (.ref ds_)] _
          refine XS.i2b X17.here hx rfl (hb hby d1_30) rfl ?_
          show own_S p e below m T17 31 #[lvR sr_, lvI (2 : Int32), lvR ds_, lvI (2 : Int32), lvI (3 : Int32), lvI (2 : Int32), lvI x2_] [(.int (x2_.toInt8.toInt32)), (.int (2 : Int32)), (.ref ds_)] _
          refine st29 _ ?_
          refine XS.iinc X29.here hx rfl (hb hby d1_32) rfl (l' := #[lvR sr_, lvI (3 : Int32), lvR ds_, lvI (2 : Int32), lvI (3 : Int32), lvI (2 : Int32), lvI x2_]) rfl ?_
          refine XS.iinc X29.here hx rfl (hb hby d1_35) rfl (l' := #[lvR sr_, lvI (3 : Int32), lvR ds_, lvI (3 : Int32), lvI (3 : Int32), lvI (2 : Int32), lvI x2_]) rfl ?_
          refine XS.iinc X29.here hx rfl (hb hby d1_38) rfl (l' := #[lvR sr_, lvI (3 : Int32), lvR ds_, lvI (3 : Int32), lvI (3 : Int32), lvI (3 : Int32), lvI x2_]) rfl ?_
          refine XS.goto X29.here hx rfl (pc0 := 41) (pc' := 3) rfl (hb hby d1_41) (by decide) (by decide) ?_
          refine XS.iload X29.here hx rfl (hb hby d1_3) rfl ?_
          show own_S p e below m T29 5 #[lvR sr_, lvI (3 : Int32), lvR ds_, lvI (3 : Int32), lvI (3 : Int32), lvI (3 : Int32), lvI x2_] [(.int (3 : Int32))] _
          refine XS.iload X29.here hx rfl (hb hby d1_5) rfl ?_
          show own_S p e below m T29 7 #[lvR sr_, lvI (3 : Int32), lvR ds_, lvI (3 : Int32), lvI (3 : Int32), lvI (3 : Int32), lvI x2_] [(.int (3 : Int32)), (.int (3 : Int32))] _
          refine XS.icmpYes X29.here hx rfl (pc0 := 7) (pc' := 44) rfl (hb hby d1_7) rfl (flt (by decide : ¬ ((3 : Int32) < (3 : Int32)))).2.1 (by decide) (by decide) ?_
          refine XS.iload X29.here hx rfl (hb hby d1_44) rfl ?_
          exact kt
        have f35 : Keep h0 h6 [ds_] := K0.wr W6 (Or.inl (List.mem_of_getElem? (i := 0) rfl))
        have f36 : Keep h0 h17 [ds_] := f35.wr W17 (Or.inl (List.mem_of_getElem? (i := 0) rfl))
        have f37 : Keep h0 h29 [ds_] := f36.wr W29 (Or.inl (List.mem_of_getElem? (i := 0) rfl))
        obtain ⟨fs, hr, hrun, hended, hW, hsame⟩ := X29.leave (v := some (.int (3 : Int32))) (fun h => by rw [Bd.returns] at h; cases h)
        refine ⟨_, _, hG _ (pre33 _ (retOut X29 hx Bd.returns rfl (Or.inl ⟨rfl, Or.inl rfl, _, rfl⟩) (hb hby d1_46) hr)), hrun, hended, _, _, rfl, ?_, ⟨_, rfl⟩, hW, hsame.mono (by decide) (by decide)⟩
        show QCp3 Z sr_ ks_ ds_ kd_ x0_ x1_ x2_ h0 n0 _ T29.heap _
        rw [e29]
        exact ⟨[(.int (x0_.toInt8.toInt32)), (.int (x1_.toInt8.toInt32)), (.int (x2_.toInt8.toInt32))], (3 : Int32), rfl, (Or.inr (Or.inr (Or.inr ⟨rfl, hc3, hc13, hc24⟩))), N30, f37, f32⟩
theorem efnewBytesLength25 (m : MethodId)  : entryFrame m #[(.int (3 : Int32))] 1 = mkF m 0 #[lvI (3 : Int32)] [] := by first | (simp [entryFrame, mkF, argsToLocals, Value.category]; done) | rfl
def QnewBytesLength25 (Z : State)  (h0 : Heap) (n0 : Nat) (v : Option Value) (h : Heap) (L : List Loc) : Prop := v = some (.int (6 : Int32)) ∧ Fr n0 L ∧ h = h0
set_option maxRecDepth 65536 in
set_option maxHeartbeats 40000000 in
theorem rmnewBytesLength25 (l : Launch) (Z : State) (a0 : Array Value) (hw : ∀ d ∈ tables_1, d.before a0 Z = true) (ws : List Jvm.Cond)  (h0 : Heap) (n0 : Nat) (O0 : Old Z n0 h0)  :
    MetFree l (⟨"java/lang/StringUTF16", "newBytesLength", "(I)I"⟩ : MethodName) (head1 (Jvm.Cond.code (⟨"java/lang/StringUTF16", "newBytesLength", "(I)I"⟩ : MethodName) jdk_52_method_3_code 1 (some .int) :: ws) ({ frames := 0, cells := 0, slots := 0, locals := 0 } : Room)) (fun a U => a = #[(.int (3 : Int32))] ∧ Z.Warmed39 U.vm ∧ U.heap = h0) (fun _ _ _ _ _ => True) (fun _ U o U' => ∃ v L, o = .returned v ∧ QnewBytesLength25 Z  h0 n0 v U'.heap L ∧ FrameEnd U o U' L ({ frames := 0, cells := 0, slots := 0, locals := 0 } : Room).cells ({ frames := 0, cells := 0, slots := 0, locals := 0 } : Room).slots) := by
  refine MetFree.of_bodySF (plainFor_of_name pn_0) hisR ?_
  intro p e s m args below meth c s₁ Bd hml0 hP hK
  obtain ⟨rfl, hZ, hh⟩ := hP
  have hx := Bd.exec
  have hby := Bd.bytes
  have hml : c.maxLocals = 1 := hml0
  have hown : s.vm.findClass "java/lang/StringUTF16" = some m.cls := findClass_of_methodNamed Bd.named
  have hnm := (name_of_methodNamed Bd.named Bd.method).1
  have X0 : Stand p l e ({ frames := 0, cells := 0, slots := 0, locals := 0 } : Room) s m #[(.int (3 : Int32))] below meth c s₁ [] 0 0 := Stand.of_body Bd
  have e0 : s₁.heap = h0 := by rw [← hh, Bd.state]; rfl
  have N0 := Fr.nil n0
  obtain ⟨G, pre0, hG⟩ : ∃ G : State → Prop, (∀ t, own_S p e below m s₁ 0 #[lvI (3 : Int32)] [] t → G t) ∧ (∀ t, G t → Steps p.tables e below (s₁.setTop (entryFrame m #[(.int (3 : Int32))] 1)) t) := ⟨fun t => Steps p.tables e below (s₁.setTop (entryFrame m #[(.int (3 : Int32))] 1)) t, fun t k => castTop (efnewBytesLength25 m ) k, fun _ k => k⟩
  have K0 : Keep h0 h0 [] := Keep.refl _ _
  have pre1 : ∀ t, own_S p e below m s₁ 58 #[lvI (3 : Int32)] [(.int (6 : Int32))] t → G t := by
    intro t kt
    refine pre0 t ?_
    show own_S p e below m s₁ 0 #[lvI (3 : Int32)] [] _
    refine XS.iloadN X0.here hx rfl (hb hby d5_0) rfl ?_
    show own_S p e below m s₁ 1 #[lvI (3 : Int32)] [(.int (3 : Int32))] _
    refine XS.ifYes X0.here hx rfl (pc0 := 1) (pc' := 12) rfl (hb hby d5_1) rfl ((if0 _ _).trans (flt (by decide : ¬ ((3 : Int32) < (0 : Int32)))).2.1) (by decide) (by decide) ?_
    refine XS.iloadN X0.here hx rfl (hb hby d5_12) rfl ?_
    show own_S p e below m s₁ 13 #[lvI (3 : Int32)] [(.int (3 : Int32))] _
    refine X0.ldcInt hx hown (mvT hZ (own_w hw 55 rfl)) (g := (mkF m 13 #[lvI (3 : Int32)] [(.int (3 : Int32))])) rfl (hb hby d5_13) _ ?_
    show own_S p e below m s₁ 15 #[lvI (3 : Int32)] [(.int (1073741823 : Int32)), (.int (3 : Int32))] _
    refine XS.icmpYes X0.here hx rfl (pc0 := 15) (pc' := 55) rfl (hb hby d5_15) rfl (tlt (by decide : (3 : Int32) < (1073741823 : Int32))).1 (by decide) (by decide) ?_
    refine XS.iloadN X0.here hx rfl (hb hby d5_55) rfl ?_
    refine XS.iconst X0.here hx rfl (hb hby d5_56) ?_
    show own_S p e below m s₁ 57 #[lvI (3 : Int32)] [(.int (1 : Int32)), (.int (3 : Int32))] _
    refine XS.ishl X0.here hx rfl (hb hby d5_57) rfl ?_
    exact kt
  obtain ⟨fs, hr, hrun, hended, hW, hsame⟩ := X0.leave (v := some (.int (6 : Int32))) (fun h => by rw [Bd.returns] at h; cases h)
  refine ⟨_, _, hG _ (pre1 _ (retOut X0 hx Bd.returns rfl (Or.inl ⟨rfl, Or.inl rfl, _, rfl⟩) (hb hby d5_58) hr)), hrun, hended, _, _, rfl, ?_, ⟨_, rfl⟩, hW, hsame.mono (by decide) (by decide)⟩
  show QnewBytesLength25 Z  h0 n0 _ s₁.heap _
  rw [e0]
  exact ⟨rfl, N0, rfl⟩
theorem efnewBytesFor24 (m : MethodId)  : entryFrame m #[(.int (3 : Int32))] 1 = mkF m 0 #[lvI (3 : Int32)] [] := by first | (simp [entryFrame, mkF, argsToLocals, Value.category]; done) | rfl
def QnewBytesFor24 (Z : State)  (h0 : Heap) (n0 : Nat) (v : Option Value) (h : Heap) (L : List Loc) : Prop := ∃ k3 : ClassId, ∃ nb3 : Addr, v = some (.ref nb3) ∧ Fr n0 L ∧ Keep h0 h [] ∧ h0.size ≤ nb3 ∧ Arv Z h nb3 k3 .byte (6 : Int32) [(.int (0 : Int32)), (.int (0 : Int32)), (.int (0 : Int32)), (.int (0 : Int32)), (.int (0 : Int32)), (.int (0 : Int32))] (.int (0 : Int32)) ∧ Exa Z h nb3 "[B"
set_option maxRecDepth 65536 in
set_option maxHeartbeats 40000000 in
theorem rmnewBytesFor24 (l : Launch) (Z : State) (a0 : Array Value) (hw : ∀ d ∈ tables_1, d.before a0 Z = true) (ws : List Jvm.Cond)  (h0 : Heap) (n0 : Nat) (O0 : Old Z n0 h0)  :
    MetFree l (⟨"java/lang/StringUTF16", "newBytesFor", "(I)[B"⟩ : MethodName) (head1 (Jvm.Cond.code (⟨"java/lang/StringUTF16", "newBytesFor", "(I)[B"⟩ : MethodName) jdk_52_method_2_code 1 (some (.array .byte)) :: ws) ({ frames := 1, cells := 1, slots := 6, locals := 12 } : Room)) (fun a U => a = #[(.int (3 : Int32))] ∧ Z.Warmed39 U.vm ∧ U.heap = h0) (fun _ _ _ _ _ => True) (fun _ U o U' => ∃ v L, o = .returned v ∧ QnewBytesFor24 Z  h0 n0 v U'.heap L ∧ FrameEnd U o U' L ({ frames := 1, cells := 1, slots := 6, locals := 12 } : Room).cells ({ frames := 1, cells := 1, slots := 6, locals := 12 } : Room).slots) := by
  refine MetFree.of_bodySF (plainFor_of_name pn_0) hisR ?_
  intro p e s m args below meth c s₁ Bd hml0 hP hK
  obtain ⟨rfl, hZ, hh⟩ := hP
  have hx := Bd.exec
  have hby := Bd.bytes
  have hml : c.maxLocals = 1 := hml0
  have hown : s.vm.findClass "java/lang/StringUTF16" = some m.cls := findClass_of_methodNamed Bd.named
  have hnm := (name_of_methodNamed Bd.named Bd.method).1
  have X0 : Stand p l e ({ frames := 1, cells := 1, slots := 6, locals := 12 } : Room) s m #[(.int (3 : Int32))] below meth c s₁ [] 0 0 := Stand.of_body Bd
  have e0 : s₁.heap = h0 := by rw [← hh, Bd.state]; rfl
  have N0 := Fr.nil n0
  obtain ⟨G, pre0, hG⟩ : ∃ G : State → Prop, (∀ t, own_S p e below m s₁ 0 #[lvI (3 : Int32)] [] t → G t) ∧ (∀ t, G t → Steps p.tables e below (s₁.setTop (entryFrame m #[(.int (3 : Int32))] 1)) t) := ⟨fun t => Steps p.tables e below (s₁.setTop (entryFrame m #[(.int (3 : Int32))] 1)) t, fun t k => castTop (efnewBytesFor24 m ) k, fun _ k => k⟩
  have K0 : Keep h0 h0 [] := Keep.refl _ _
  obtain ⟨_, _, ⟨T1, L1, k1, n1⟩, -, X1, ⟨Lc1, hQ1, l1, y1, z1⟩, st1⟩ := Jvm.LawKit.callS X0 hx (y := (⟨"java/lang/StringUTF16", "newBytesLength", "(I)I"⟩ : MethodName)) hown (mvT hZ (own_w hw 52 rfl)) (mvT hZ (own_w hw 53 rfl)) (mvT hZ (own_w hw 17 rfl)) (mvT hZ (own_w hw 54 rfl)) (by decide) (backOf (W := 0) (rmnewBytesLength25 l Z a0 hw []  h0 n0 O0 ) hZ (own_w hw 54 rfl) (own_w hw 17 rfl) (by decide) (by decide)) (g := (mkF m 1 #[lvI (3 : Int32)] [(.int (3 : Int32))])) rfl (by rw [hml]; rfl) (argsL := [(.int (3 : Int32))]) (rest := []) (lenOf pd_1 rfl) rfl (by show 2 * 0 + _ ≤ _; exact Nat.le_of_eq rfl) (hb hby d4_1) (fun _ _ => ⟨rfl, e0, (by decide : 0 + 0 ≤ _), (by decide : 0 + 0 ≤ _)⟩)
  dsimp only [Pt.U, Pt.locs, Pt.cells, Pt.slots] at X1 l1 y1 z1 st1 hQ1
  subst l1 y1 z1
  obtain ⟨h1, e1⟩ : ∃ z, T1.heap = z := ⟨_, rfl⟩
  rw [e1] at hQ1
  obtain ⟨rfl, N1q, hh1⟩ := hQ1
  have N2 := Fr.app N0 N1q
  have e1' : T1.heap = h0 := e1.trans hh1
  obtain ⟨T3, h3, k3, X3, e3, E3, A3, Z3, st3⟩ := newPE X1 hx hZ (own_w hw 19 rfl) e1' (g := (mkF m 4 #[lvI (3 : Int32)] [(.int (6 : Int32))])) rfl (hb hby d4_4) rfl (by decide) (cap := 6) (by decide) (by decide) (by decide) (by decide) (ad := "[B") (by decide)
  obtain ⟨b3, g3⟩ : ∃ z, z = h0.size := ⟨_, rfl⟩
  rw [← g3] at A3 Z3 st3
  have ge4 : n0 ≤ b3 := Nat.le_trans (Nat.le_trans (Nat.le_of_eq O0.1.symm) O0.2.1) (Nat.le_of_eq g3.symm)
  have sz5 : h0.size ≤ b3 := Nat.le_trans K0.1 (Nat.le_of_eq g3.symm)
  have f6 : Arv Z h3 b3 k3 .byte (6 : Int32) [(.int (0 : Int32)), (.int (0 : Int32)), (.int (0 : Int32)), (.int (0 : Int32)), (.int (0 : Int32)), (.int (0 : Int32))] (.int (0 : Int32)) := (Arv.new A3 (by decide)).pad (pad_rep [] (.int (0 : Int32)) 6)
  have pre7 : ∀ t, own_S p e below m T3 6 #[lvI (3 : Int32)] [(.ref b3)] t → G t := by
    intro t kt
    refine pre0 t ?_
    show own_S p e below m s₁ 0 #[lvI (3 : Int32)] [] _
    refine XS.iloadN X0.here hx rfl (hb hby d4_0) rfl ?_
    show own_S p e below m s₁ 1 #[lvI (3 : Int32)] [(.int (3 : Int32))] _
    refine st1 _ ?_
    show own_S p e below m T1 4 #[lvI (3 : Int32)] [(.int (6 : Int32))] _
    refine st3 _ ?_
    exact kt
  have f9 : Keep h0 h3 [] := K0.ext E3
  obtain ⟨fs, hr, hrun, hended, hW, hsame⟩ := X3.leave (v := some (.ref b3)) (fun h => by rw [Bd.returns] at h; cases h)
  refine ⟨_, _, hG _ (pre7 _ (retOut X3 hx Bd.returns rfl (Or.inr (Or.inr (Or.inr (Or.inr ⟨rfl, rfl, rfl⟩)))) (hb hby d4_6) hr)), hrun, hended, _, _, rfl, ?_, ⟨_, rfl⟩, hW, hsame.mono (by decide) (by decide)⟩
  show QnewBytesFor24 Z  h0 n0 _ T3.heap _
  rw [e3]
  exact ⟨k3, b3, rfl, N2, f9, sz5, f6, Z3⟩
theorem efputChar29 (m : MethodId) (o0_ : Addr) (x0_ : Int32) : entryFrame m #[(.ref o0_), (.int (0 : Int32)), (.int x0_)] 3 = mkF m 0 #[lvR o0_, lvI (0 : Int32), lvI x0_] [] := by first | (simp [entryFrame, mkF, argsToLocals, Value.category]; done) | rfl
def QputChar29 (Z : State) (o0_ : Addr) (x0_ : Int32) (ko0_ : ClassId) (h0 : Heap) (n0 : Nat) (v : Option Value) (h : Heap) (L : List Loc) : Prop := v = none ∧ Fr n0 L ∧ Keep h0 h [o0_] ∧ Arv Z h o0_ ko0_ .byte (6 : Int32) [(.int ((x0_ >>> ((0 : Int32) &&& 31)).toInt8.toInt32)), (.int ((x0_ >>> ((8 : Int32) &&& 31)).toInt8.toInt32)), (.int (0 : Int32)), (.int (0 : Int32)), (.int (0 : Int32)), (.int (0 : Int32))] (.int (0 : Int32)) ∧ Exa Z h o0_ "[B"
set_option maxRecDepth 65536 in
set_option maxHeartbeats 40000000 in
theorem rmputChar29 (l : Launch) (Z : State) (a0 : Array Value) (hw : ∀ d ∈ tables_1, d.before a0 Z = true) (ws : List Jvm.Cond) (o0_ : Addr) (x0_ : Int32) (ko0_ : ClassId) (h0 : Heap) (n0 : Nat) (O0 : Old Z n0 h0) (P0 : Arv Z h0 o0_ ko0_ .byte (6 : Int32) [(.int (0 : Int32)), (.int (0 : Int32)), (.int (0 : Int32)), (.int (0 : Int32)), (.int (0 : Int32)), (.int (0 : Int32))] (.int (0 : Int32))) (P1 : Exa Z h0 o0_ "[B") (P2 : Sta Z Z.heap "java/lang/StringUTF16" "$assertionsDisabled" "Z" (.int (1 : Int32))) (P3 : Sta Z Z.heap "java/lang/StringUTF16" "HI_BYTE_SHIFT" "I" (.int (0 : Int32))) (P4 : n0 ≤ o0_) (P5 : Sta Z Z.heap "java/lang/StringUTF16" "LO_BYTE_SHIFT" "I" (.int (8 : Int32))) :
    MetFree l (⟨"java/lang/StringUTF16", "putChar", "([BII)V"⟩ : MethodName) (head1 (Jvm.Cond.code (⟨"java/lang/StringUTF16", "putChar", "([BII)V"⟩ : MethodName) jdk_52_method_4_code 3 none :: ws) ({ frames := 0, cells := 0, slots := 0, locals := 0 } : Room)) (fun a U => a = #[(.ref o0_), (.int (0 : Int32)), (.int x0_)] ∧ Z.Warmed39 U.vm ∧ U.heap = h0) (fun _ _ _ _ _ => True) (fun _ U o U' => ∃ v L, o = .returned v ∧ QputChar29 Z o0_ x0_ ko0_ h0 n0 v U'.heap L ∧ FrameEnd U o U' L ({ frames := 0, cells := 0, slots := 0, locals := 0 } : Room).cells ({ frames := 0, cells := 0, slots := 0, locals := 0 } : Room).slots) := by
  refine MetFree.of_bodySF (plainFor_of_name pn_0) hisR ?_
  intro p e s m args below meth c s₁ Bd hml0 hP hK
  obtain ⟨rfl, hZ, hh⟩ := hP
  have hx := Bd.exec
  have hby := Bd.bytes
  have hml : c.maxLocals = 3 := hml0
  have hown : s.vm.findClass "java/lang/StringUTF16" = some m.cls := findClass_of_methodNamed Bd.named
  have hnm := (name_of_methodNamed Bd.named Bd.method).1
  have X0 : Stand p l e ({ frames := 0, cells := 0, slots := 0, locals := 0 } : Room) s m #[(.ref o0_), (.int (0 : Int32)), (.int x0_)] below meth c s₁ [] 0 0 := Stand.of_body Bd
  have e0 : s₁.heap = h0 := by rw [← hh, Bd.state]; rfl
  have N0 := Fr.nil n0
  obtain ⟨G, pre0, hG⟩ : ∃ G : State → Prop, (∀ t, own_S p e below m s₁ 0 #[lvR o0_, lvI (0 : Int32), lvI x0_] [] t → G t) ∧ (∀ t, G t → Steps p.tables e below (s₁.setTop (entryFrame m #[(.ref o0_), (.int (0 : Int32)), (.int x0_)] 3)) t) := ⟨fun t => Steps p.tables e below (s₁.setTop (entryFrame m #[(.ref o0_), (.int (0 : Int32)), (.int x0_)] 3)) t, fun t k => castTop (efputChar29 m o0_ x0_) k, fun _ k => k⟩
  have K0 : Keep h0 h0 [o0_] := Keep.refl _ _
  obtain ⟨T1, X1, e1, st1⟩ := getS2 X0 hx hZ hown (host := "") (Or.inl (own_w hw 59 rfl)) Via.refl e0 (P2.ext O0.2) (g := (mkF m 0 #[lvR o0_, lvI (0 : Int32), lvI x0_] [])) rfl (hb hby d6_0)
  obtain ⟨T2, X2, e2, st2⟩ := getS2 X1 hx hZ hown (host := "") (Or.inl (own_w hw 60 rfl)) Via.refl e1 (P3.ext O0.2) (g := (mkF m 38 #[lvR o0_, lvI (1 : Int32), lvI x0_] [(.int x0_), (.int (0 : Int32)), (.ref o0_)])) rfl (hb hby d6_38)
  obtain ⟨c3, r3, q3, s3, z3, y3, G3⟩ := id P0
  have hin3 : ¬ ((0 : Int32) < 0 ∨ c3.slots.size ≤ ((0 : Int32)).toNatClampNeg) := inb_of s3 ⟨by decide, by decide⟩
  obtain ⟨T3, h3, X3, e3, W3, st3⟩ := stB X2 hx hZ e2 r3 (j := (0 : Int32)) hin3 (g := (mkF m 43 #[lvR o0_, lvI (1 : Int32), lvI x0_] [(.int ((x0_ >>> ((0 : Int32) &&& 31)).toInt8.toInt32)), (.int (0 : Int32)), (.ref o0_)])) rfl rfl (hb hby d6_43)
  have N4 := Fr.snoc X3 N0 P4
  have f5 : Arv Z h3 o0_ ko0_ .byte (6 : Int32) [(.int (((x0_ >>> ((0 : Int32) &&& 31)).toInt8.toInt32).toInt8.toInt32)), (.int (0 : Int32)), (.int (0 : Int32)), (.int (0 : Int32)), (.int (0 : Int32)), (.int (0 : Int32))] (.int (0 : Int32)) := Arv.set r3 q3 s3 z3 y3 G3 (fits_nar_byte _) W3 0 rfl (Nat.le_of_ble_eq_true rfl)
  have f6 : Arv Z h3 o0_ ko0_ .byte (6 : Int32) [(.int ((x0_ >>> ((0 : Int32) &&& 31)).toInt8.toInt32)), (.int (0 : Int32)), (.int (0 : Int32)), (.int (0 : Int32)), (.int (0 : Int32)), (.int (0 : Int32))] (.int (0 : Int32)) := by have q := f5; rw [own_i2b2] at q; exact q
  have f7 : Old Z n0 h3 := O0.wr W3 P4
  obtain ⟨T8, X8, e8, st8⟩ := getS2 X3 hx hZ hown (host := "") (Or.inl (own_w hw 61 rfl)) Via.refl e3 (P5.ext f7.2) (g := (mkF m 47 #[lvR o0_, lvI (1 : Int32), lvI x0_] [(.int x0_), (.int (1 : Int32)), (.ref o0_)])) rfl (hb hby d6_47)
  obtain ⟨c9, r9, q9, s9, z9, y9, G9⟩ := id f6
  have hin9 : ¬ ((1 : Int32) < 0 ∨ c9.slots.size ≤ ((1 : Int32)).toNatClampNeg) := inb_of s9 ⟨by decide, by decide⟩
  obtain ⟨T9, h9, X9, e9, W9, st9⟩ := stB X8 hx hZ e8 r9 (j := (1 : Int32)) hin9 (g := (mkF m 52 #[lvR o0_, lvI (1 : Int32), lvI x0_] [(.int ((x0_ >>> ((8 : Int32) &&& 31)).toInt8.toInt32)), (.int (1 : Int32)), (.ref o0_)])) rfl rfl (hb hby d6_52)
  have N10 := Fr.snoc X9 N4 P4
  have f11 : Arv Z h9 o0_ ko0_ .byte (6 : Int32) [(.int ((x0_ >>> ((0 : Int32) &&& 31)).toInt8.toInt32)), (.int (((x0_ >>> ((8 : Int32) &&& 31)).toInt8.toInt32).toInt8.toInt32)), (.int (0 : Int32)), (.int (0 : Int32)), (.int (0 : Int32)), (.int (0 : Int32))] (.int (0 : Int32)) := Arv.set r9 q9 s9 z9 y9 G9 (fits_nar_byte _) W9 1 rfl (Nat.le_of_ble_eq_true rfl)
  have f12 : Arv Z h9 o0_ ko0_ .byte (6 : Int32) [(.int ((x0_ >>> ((0 : Int32) &&& 31)).toInt8.toInt32)), (.int ((x0_ >>> ((8 : Int32) &&& 31)).toInt8.toInt32)), (.int (0 : Int32)), (.int (0 : Int32)), (.int (0 : Int32)), (.int (0 : Int32))] (.int (0 : Int32)) := by have q := f11; rw [own_i2b2] at q; exact q
  have pre13 : ∀ t, own_S p e below m T9 53 #[lvR o0_, lvI (1 : Int32), lvI x0_] [] t → G t := by
    intro t kt
    refine pre0 t ?_
    show own_S p e below m s₁ 0 #[lvR o0_, lvI (0 : Int32), lvI x0_] [] _
    refine st1 _ ?_
    show own_S p e below m T1 3 #[lvR o0_, lvI (0 : Int32), lvI x0_] [(.int (1 : Int32))] _
    refine XS.ifYes X1.here hx rfl (pc0 := 3) (pc' := 28) rfl (hb hby d6_3) rfl ((if0 _ _).trans (feq (by decide : ¬ ((1 : Int32) = (0 : Int32)))).2) (by decide) (by decide) ?_
    refine XS.iloadN X1.here hx rfl (hb hby d6_28) rfl ?_
    refine XS.iconst X1.here hx rfl (hb hby d6_29) ?_
    show own_S p e below m T1 30 #[lvR o0_, lvI (0 : Int32), lvI x0_] [(.int (1 : Int32)), (.int (0 : Int32))] _
    refine XS.ishl X1.here hx rfl (hb hby d6_30) rfl ?_
    refine XS.istoreN X1.here hx rfl (hb hby d6_31) rfl (l' := #[lvR o0_, lvI (0 : Int32), lvI x0_]) rfl ?_
    refine XS.aloadN X1.here hx rfl (hb hby d6_32) rfl rfl ?_
    refine XS.iloadN X1.here hx rfl (hb hby d6_33) rfl ?_
    refine XS.iinc X1.here hx rfl (hb hby d6_34) rfl (l' := #[lvR o0_, lvI (1 : Int32), lvI x0_]) rfl ?_
    refine XS.iloadN X1.here hx rfl (hb hby d6_37) rfl ?_
    show own_S p e below m T1 38 #[lvR o0_, lvI (1 : Int32), lvI x0_] [(.int x0_), (.int (0 : Int32)), (.ref o0_)] _
    refine st2 _ ?_
    show own_S p e below m T2 41 #[lvR o0_, lvI (1 : Int32), lvI x0_] [(.int (0 : Int32)), (.int x0_), (.int (0 : Int32)), (.ref o0_)] _
    refine XS.ishr X2.here hx rfl (hb hby d6_41) rfl ?_
    show own_S p e below m T2 42 #[lvR o0_, lvI (1 : Int32), lvI x0_] [(.int (x0_ >>> ((0 : Int32) &&& 31))), (.int (0 : Int32)), (.ref o0_)] _
    refine XS.i2b X2.here hx rfl (hb hby d6_42) rfl ?_
    show own_S p e below m T2 43 #[lvR o0_, lvI (1 : Int32), lvI x0_] [(.int ((x0_ >>> ((0 : Int32) &&& 31)).toInt8.toInt32)), (.int (0 : Int32)), (.ref o0_)] _
    refine st3 _ ?_
    refine XS.aloadN X3.here hx rfl (hb hby d6_44) rfl rfl ?_
    refine XS.iloadN X3.here hx rfl (hb hby d6_45) rfl ?_
    refine XS.iloadN X3.here hx rfl (hb hby d6_46) rfl ?_
    show own_S p e below m T3 47 #[lvR o0_, lvI (1 : Int32), lvI x0_] [(.int x0_), (.int (1 : Int32)), (.ref o0_)] _
    refine st8 _ ?_
    show own_S p e below m T8 50 #[lvR o0_, lvI (1 : Int32), lvI x0_] [(.int (8 : Int32)), (.int x0_), (.int (1 : Int32)), (.ref o0_)] _
    refine XS.ishr X8.here hx rfl (hb hby d6_50) rfl ?_
    show own_S p e below m T8 51 #[lvR o0_, lvI (1 : Int32), lvI x0_] [(.int (x0_ >>> ((8 : Int32) &&& 31))), (.int (1 : Int32)), (.ref o0_)] _
    refine XS.i2b X8.here hx rfl (hb hby d6_51) rfl ?_
    show own_S p e below m T8 52 #[lvR o0_, lvI (1 : Int32), lvI x0_] [(.int ((x0_ >>> ((8 : Int32) &&& 31)).toInt8.toInt32)), (.int (1 : Int32)), (.ref o0_)] _
    refine st9 _ ?_
    exact kt
  have f15 : Keep h0 h3 [o0_] := K0.wr W3 (Or.inl (List.mem_of_getElem? (i := 0) rfl))
  have f16 : Keep h0 h9 [o0_] := f15.wr W9 (Or.inl (List.mem_of_getElem? (i := 0) rfl))
  have f17 : Exa Z h3 o0_ "[B" := P1.wr W3
  have f18 : Exa Z h9 o0_ "[B" := f17.wr W9
  obtain ⟨fs, hr, hrun, hended, hW, hsame⟩ := X9.leave (v := none) (fun _ => rfl)
  refine ⟨_, _, hG _ (pre13 _ (X9.returnOut hx Bd.returns (hb hby d6_53) hr)), hrun, hended, _, _, rfl, ?_, ⟨_, rfl⟩, hW, hsame.mono (by decide) (by decide)⟩
  show QputChar29 Z o0_ x0_ ko0_ h0 n0 _ T9.heap _
  rw [e9]
  exact ⟨rfl, N10, f16, f12, f18⟩
theorem efputChar30 (m : MethodId) (o0_ : Addr) (x0_ : Int32) : entryFrame m #[(.ref o0_), (.int (1 : Int32)), (.int x0_)] 3 = mkF m 0 #[lvR o0_, lvI (1 : Int32), lvI x0_] [] := by first | (simp [entryFrame, mkF, argsToLocals, Value.category]; done) | rfl
def QputChar30 (Z : State) (o0_ : Addr) (x0_ : Int32) (ko0_ : ClassId) (x1_ : Int32) (x2_ : Int32) (h0 : Heap) (n0 : Nat) (v : Option Value) (h : Heap) (L : List Loc) : Prop := v = none ∧ Fr n0 L ∧ Keep h0 h [o0_] ∧ Arv Z h o0_ ko0_ .byte (6 : Int32) [(.int x1_), (.int x2_), (.int ((x0_ >>> ((0 : Int32) &&& 31)).toInt8.toInt32)), (.int ((x0_ >>> ((8 : Int32) &&& 31)).toInt8.toInt32)), (.int (0 : Int32)), (.int (0 : Int32))] (.int (0 : Int32)) ∧ Exa Z h o0_ "[B"
set_option maxRecDepth 65536 in
set_option maxHeartbeats 40000000 in
theorem rmputChar30 (l : Launch) (Z : State) (a0 : Array Value) (hw : ∀ d ∈ tables_1, d.before a0 Z = true) (ws : List Jvm.Cond) (o0_ : Addr) (x0_ : Int32) (ko0_ : ClassId) (x1_ : Int32) (x2_ : Int32) (h0 : Heap) (n0 : Nat) (O0 : Old Z n0 h0) (P0 : Arv Z h0 o0_ ko0_ .byte (6 : Int32) [(.int x1_), (.int x2_), (.int (0 : Int32)), (.int (0 : Int32)), (.int (0 : Int32)), (.int (0 : Int32))] (.int (0 : Int32))) (P1 : Exa Z h0 o0_ "[B") (P2 : Sta Z Z.heap "java/lang/StringUTF16" "$assertionsDisabled" "Z" (.int (1 : Int32))) (P3 : Sta Z Z.heap "java/lang/StringUTF16" "HI_BYTE_SHIFT" "I" (.int (0 : Int32))) (P4 : n0 ≤ o0_) (P5 : Sta Z Z.heap "java/lang/StringUTF16" "LO_BYTE_SHIFT" "I" (.int (8 : Int32))) :
    MetFree l (⟨"java/lang/StringUTF16", "putChar", "([BII)V"⟩ : MethodName) (head1 (Jvm.Cond.code (⟨"java/lang/StringUTF16", "putChar", "([BII)V"⟩ : MethodName) jdk_52_method_4_code 3 none :: ws) ({ frames := 0, cells := 0, slots := 0, locals := 0 } : Room)) (fun a U => a = #[(.ref o0_), (.int (1 : Int32)), (.int x0_)] ∧ Z.Warmed39 U.vm ∧ U.heap = h0) (fun _ _ _ _ _ => True) (fun _ U o U' => ∃ v L, o = .returned v ∧ QputChar30 Z o0_ x0_ ko0_ x1_ x2_ h0 n0 v U'.heap L ∧ FrameEnd U o U' L ({ frames := 0, cells := 0, slots := 0, locals := 0 } : Room).cells ({ frames := 0, cells := 0, slots := 0, locals := 0 } : Room).slots) := by
  refine MetFree.of_bodySF (plainFor_of_name pn_0) hisR ?_
  intro p e s m args below meth c s₁ Bd hml0 hP hK
  obtain ⟨rfl, hZ, hh⟩ := hP
  have hx := Bd.exec
  have hby := Bd.bytes
  have hml : c.maxLocals = 3 := hml0
  have hown : s.vm.findClass "java/lang/StringUTF16" = some m.cls := findClass_of_methodNamed Bd.named
  have hnm := (name_of_methodNamed Bd.named Bd.method).1
  have X0 : Stand p l e ({ frames := 0, cells := 0, slots := 0, locals := 0 } : Room) s m #[(.ref o0_), (.int (1 : Int32)), (.int x0_)] below meth c s₁ [] 0 0 := Stand.of_body Bd
  have e0 : s₁.heap = h0 := by rw [← hh, Bd.state]; rfl
  have N0 := Fr.nil n0
  obtain ⟨G, pre0, hG⟩ : ∃ G : State → Prop, (∀ t, own_S p e below m s₁ 0 #[lvR o0_, lvI (1 : Int32), lvI x0_] [] t → G t) ∧ (∀ t, G t → Steps p.tables e below (s₁.setTop (entryFrame m #[(.ref o0_), (.int (1 : Int32)), (.int x0_)] 3)) t) := ⟨fun t => Steps p.tables e below (s₁.setTop (entryFrame m #[(.ref o0_), (.int (1 : Int32)), (.int x0_)] 3)) t, fun t k => castTop (efputChar30 m o0_ x0_) k, fun _ k => k⟩
  have K0 : Keep h0 h0 [o0_] := Keep.refl _ _
  obtain ⟨T1, X1, e1, st1⟩ := getS2 X0 hx hZ hown (host := "") (Or.inl (own_w hw 59 rfl)) Via.refl e0 (P2.ext O0.2) (g := (mkF m 0 #[lvR o0_, lvI (1 : Int32), lvI x0_] [])) rfl (hb hby d6_0)
  obtain ⟨T2, X2, e2, st2⟩ := getS2 X1 hx hZ hown (host := "") (Or.inl (own_w hw 60 rfl)) Via.refl e1 (P3.ext O0.2) (g := (mkF m 38 #[lvR o0_, lvI (3 : Int32), lvI x0_] [(.int x0_), (.int (2 : Int32)), (.ref o0_)])) rfl (hb hby d6_38)
  obtain ⟨c3, r3, q3, s3, z3, y3, G3⟩ := id P0
  have hin3 : ¬ ((2 : Int32) < 0 ∨ c3.slots.size ≤ ((2 : Int32)).toNatClampNeg) := inb_of s3 ⟨by decide, by decide⟩
  obtain ⟨T3, h3, X3, e3, W3, st3⟩ := stB X2 hx hZ e2 r3 (j := (2 : Int32)) hin3 (g := (mkF m 43 #[lvR o0_, lvI (3 : Int32), lvI x0_] [(.int ((x0_ >>> ((0 : Int32) &&& 31)).toInt8.toInt32)), (.int (2 : Int32)), (.ref o0_)])) rfl rfl (hb hby d6_43)
  have N4 := Fr.snoc X3 N0 P4
  have f5 : Arv Z h3 o0_ ko0_ .byte (6 : Int32) [(.int x1_), (.int x2_), (.int (((x0_ >>> ((0 : Int32) &&& 31)).toInt8.toInt32).toInt8.toInt32)), (.int (0 : Int32)), (.int (0 : Int32)), (.int (0 : Int32))] (.int (0 : Int32)) := Arv.set r3 q3 s3 z3 y3 G3 (fits_nar_byte _) W3 2 rfl (Nat.le_of_ble_eq_true rfl)
  have f6 : Arv Z h3 o0_ ko0_ .byte (6 : Int32) [(.int x1_), (.int x2_), (.int ((x0_ >>> ((0 : Int32) &&& 31)).toInt8.toInt32)), (.int (0 : Int32)), (.int (0 : Int32)), (.int (0 : Int32))] (.int (0 : Int32)) := by have q := f5; rw [own_i2b2] at q; exact q
  have f7 : Old Z n0 h3 := O0.wr W3 P4
  obtain ⟨T8, X8, e8, st8⟩ := getS2 X3 hx hZ hown (host := "") (Or.inl (own_w hw 61 rfl)) Via.refl e3 (P5.ext f7.2) (g := (mkF m 47 #[lvR o0_, lvI (3 : Int32), lvI x0_] [(.int x0_), (.int (3 : Int32)), (.ref o0_)])) rfl (hb hby d6_47)
  obtain ⟨c9, r9, q9, s9, z9, y9, G9⟩ := id f6
  have hin9 : ¬ ((3 : Int32) < 0 ∨ c9.slots.size ≤ ((3 : Int32)).toNatClampNeg) := inb_of s9 ⟨by decide, by decide⟩
  obtain ⟨T9, h9, X9, e9, W9, st9⟩ := stB X8 hx hZ e8 r9 (j := (3 : Int32)) hin9 (g := (mkF m 52 #[lvR o0_, lvI (3 : Int32), lvI x0_] [(.int ((x0_ >>> ((8 : Int32) &&& 31)).toInt8.toInt32)), (.int (3 : Int32)), (.ref o0_)])) rfl rfl (hb hby d6_52)
  have N10 := Fr.snoc X9 N4 P4
  have f11 : Arv Z h9 o0_ ko0_ .byte (6 : Int32) [(.int x1_), (.int x2_), (.int ((x0_ >>> ((0 : Int32) &&& 31)).toInt8.toInt32)), (.int (((x0_ >>> ((8 : Int32) &&& 31)).toInt8.toInt32).toInt8.toInt32)), (.int (0 : Int32)), (.int (0 : Int32))] (.int (0 : Int32)) := Arv.set r9 q9 s9 z9 y9 G9 (fits_nar_byte _) W9 3 rfl (Nat.le_of_ble_eq_true rfl)
  have f12 : Arv Z h9 o0_ ko0_ .byte (6 : Int32) [(.int x1_), (.int x2_), (.int ((x0_ >>> ((0 : Int32) &&& 31)).toInt8.toInt32)), (.int ((x0_ >>> ((8 : Int32) &&& 31)).toInt8.toInt32)), (.int (0 : Int32)), (.int (0 : Int32))] (.int (0 : Int32)) := by have q := f11; rw [own_i2b2] at q; exact q
  have pre13 : ∀ t, own_S p e below m T9 53 #[lvR o0_, lvI (3 : Int32), lvI x0_] [] t → G t := by
    intro t kt
    refine pre0 t ?_
    show own_S p e below m s₁ 0 #[lvR o0_, lvI (1 : Int32), lvI x0_] [] _
    refine st1 _ ?_
    show own_S p e below m T1 3 #[lvR o0_, lvI (1 : Int32), lvI x0_] [(.int (1 : Int32))] _
    refine XS.ifYes X1.here hx rfl (pc0 := 3) (pc' := 28) rfl (hb hby d6_3) rfl ((if0 _ _).trans (feq (by decide : ¬ ((1 : Int32) = (0 : Int32)))).2) (by decide) (by decide) ?_
    refine XS.iloadN X1.here hx rfl (hb hby d6_28) rfl ?_
    refine XS.iconst X1.here hx rfl (hb hby d6_29) ?_
    show own_S p e below m T1 30 #[lvR o0_, lvI (1 : Int32), lvI x0_] [(.int (1 : Int32)), (.int (1 : Int32))] _
    refine XS.ishl X1.here hx rfl (hb hby d6_30) rfl ?_
    refine XS.istoreN X1.here hx rfl (hb hby d6_31) rfl (l' := #[lvR o0_, lvI (2 : Int32), lvI x0_]) rfl ?_
    refine XS.aloadN X1.here hx rfl (hb hby d6_32) rfl rfl ?_
    refine XS.iloadN X1.here hx rfl (hb hby d6_33) rfl ?_
    refine XS.iinc X1.here hx rfl (hb hby d6_34) rfl (l' := #[lvR o0_, lvI (3 : Int32), lvI x0_]) rfl ?_
    refine XS.iloadN X1.here hx rfl (hb hby d6_37) rfl ?_
    show own_S p e below m T1 38 #[lvR o0_, lvI (3 : Int32), lvI x0_] [(.int x0_), (.int (2 : Int32)), (.ref o0_)] _
    refine st2 _ ?_
    show own_S p e below m T2 41 #[lvR o0_, lvI (3 : Int32), lvI x0_] [(.int (0 : Int32)), (.int x0_), (.int (2 : Int32)), (.ref o0_)] _
    refine XS.ishr X2.here hx rfl (hb hby d6_41) rfl ?_
    show own_S p e below m T2 42 #[lvR o0_, lvI (3 : Int32), lvI x0_] [(.int (x0_ >>> ((0 : Int32) &&& 31))), (.int (2 : Int32)), (.ref o0_)] _
    refine XS.i2b X2.here hx rfl (hb hby d6_42) rfl ?_
    show own_S p e below m T2 43 #[lvR o0_, lvI (3 : Int32), lvI x0_] [(.int ((x0_ >>> ((0 : Int32) &&& 31)).toInt8.toInt32)), (.int (2 : Int32)), (.ref o0_)] _
    refine st3 _ ?_
    refine XS.aloadN X3.here hx rfl (hb hby d6_44) rfl rfl ?_
    refine XS.iloadN X3.here hx rfl (hb hby d6_45) rfl ?_
    refine XS.iloadN X3.here hx rfl (hb hby d6_46) rfl ?_
    show own_S p e below m T3 47 #[lvR o0_, lvI (3 : Int32), lvI x0_] [(.int x0_), (.int (3 : Int32)), (.ref o0_)] _
    refine st8 _ ?_
    show own_S p e below m T8 50 #[lvR o0_, lvI (3 : Int32), lvI x0_] [(.int (8 : Int32)), (.int x0_), (.int (3 : Int32)), (.ref o0_)] _
    refine XS.ishr X8.here hx rfl (hb hby d6_50) rfl ?_
    show own_S p e below m T8 51 #[lvR o0_, lvI (3 : Int32), lvI x0_] [(.int (x0_ >>> ((8 : Int32) &&& 31))), (.int (3 : Int32)), (.ref o0_)] _
    refine XS.i2b X8.here hx rfl (hb hby d6_51) rfl ?_
    show own_S p e below m T8 52 #[lvR o0_, lvI (3 : Int32), lvI x0_] [(.int ((x0_ >>> ((8 : Int32) &&& 31)).toInt8.toInt32)), (.int (3 : Int32)), (.ref o0_)] _
    refine st9 _ ?_
    exact kt
  have f15 : Keep h0 h3 [o0_] := K0.wr W3 (Or.inl (List.mem_of_getElem? (i := 0) rfl))
  have f16 : Keep h0 h9 [o0_] := f15.wr W9 (Or.inl (List.mem_of_getElem? (i := 0) rfl))
  have f17 : Exa Z h3 o0_ "[B" := P1.wr W3
  have f18 : Exa Z h9 o0_ "[B" := f17.wr W9
  obtain ⟨fs, hr, hrun, hended, hW, hsame⟩ := X9.leave (v := none) (fun _ => rfl)
  refine ⟨_, _, hG _ (pre13 _ (X9.returnOut hx Bd.returns (hb hby d6_53) hr)), hrun, hended, _, _, rfl, ?_, ⟨_, rfl⟩, hW, hsame.mono (by decide) (by decide)⟩
  show QputChar30 Z o0_ x0_ ko0_ x1_ x2_ h0 n0 _ T9.heap _
  rw [e9]
  exact ⟨rfl, N10, f16, f12, f18⟩
theorem efputChar31 (m : MethodId) (o0_ : Addr) (x0_ : Int32) : entryFrame m #[(.ref o0_), (.int (2 : Int32)), (.int x0_)] 3 = mkF m 0 #[lvR o0_, lvI (2 : Int32), lvI x0_] [] := by first | (simp [entryFrame, mkF, argsToLocals, Value.category]; done) | rfl
def QputChar31 (Z : State) (o0_ : Addr) (x0_ : Int32) (ko0_ : ClassId) (x1_ : Int32) (x2_ : Int32) (x3_ : Int32) (x4_ : Int32) (h0 : Heap) (n0 : Nat) (v : Option Value) (h : Heap) (L : List Loc) : Prop := v = none ∧ Fr n0 L ∧ Keep h0 h [o0_] ∧ Arv Z h o0_ ko0_ .byte (6 : Int32) [(.int x1_), (.int x2_), (.int x3_), (.int x4_), (.int ((x0_ >>> ((0 : Int32) &&& 31)).toInt8.toInt32)), (.int ((x0_ >>> ((8 : Int32) &&& 31)).toInt8.toInt32))] (.int (0 : Int32)) ∧ Exa Z h o0_ "[B"
set_option maxRecDepth 65536 in
set_option maxHeartbeats 40000000 in
theorem rmputChar31 (l : Launch) (Z : State) (a0 : Array Value) (hw : ∀ d ∈ tables_1, d.before a0 Z = true) (ws : List Jvm.Cond) (o0_ : Addr) (x0_ : Int32) (ko0_ : ClassId) (x1_ : Int32) (x2_ : Int32) (x3_ : Int32) (x4_ : Int32) (h0 : Heap) (n0 : Nat) (O0 : Old Z n0 h0) (P0 : Arv Z h0 o0_ ko0_ .byte (6 : Int32) [(.int x1_), (.int x2_), (.int x3_), (.int x4_), (.int (0 : Int32)), (.int (0 : Int32))] (.int (0 : Int32))) (P1 : Exa Z h0 o0_ "[B") (P2 : Sta Z Z.heap "java/lang/StringUTF16" "$assertionsDisabled" "Z" (.int (1 : Int32))) (P3 : Sta Z Z.heap "java/lang/StringUTF16" "HI_BYTE_SHIFT" "I" (.int (0 : Int32))) (P4 : n0 ≤ o0_) (P5 : Sta Z Z.heap "java/lang/StringUTF16" "LO_BYTE_SHIFT" "I" (.int (8 : Int32))) :
    MetFree l (⟨"java/lang/StringUTF16", "putChar", "([BII)V"⟩ : MethodName) (head1 (Jvm.Cond.code (⟨"java/lang/StringUTF16", "putChar", "([BII)V"⟩ : MethodName) jdk_52_method_4_code 3 none :: ws) ({ frames := 0, cells := 0, slots := 0, locals := 0 } : Room)) (fun a U => a = #[(.ref o0_), (.int (2 : Int32)), (.int x0_)] ∧ Z.Warmed39 U.vm ∧ U.heap = h0) (fun _ _ _ _ _ => True) (fun _ U o U' => ∃ v L, o = .returned v ∧ QputChar31 Z o0_ x0_ ko0_ x1_ x2_ x3_ x4_ h0 n0 v U'.heap L ∧ FrameEnd U o U' L ({ frames := 0, cells := 0, slots := 0, locals := 0 } : Room).cells ({ frames := 0, cells := 0, slots := 0, locals := 0 } : Room).slots) := by
  refine MetFree.of_bodySF (plainFor_of_name pn_0) hisR ?_
  intro p e s m args below meth c s₁ Bd hml0 hP hK
  obtain ⟨rfl, hZ, hh⟩ := hP
  have hx := Bd.exec
  have hby := Bd.bytes
  have hml : c.maxLocals = 3 := hml0
  have hown : s.vm.findClass "java/lang/StringUTF16" = some m.cls := findClass_of_methodNamed Bd.named
  have hnm := (name_of_methodNamed Bd.named Bd.method).1
  have X0 : Stand p l e ({ frames := 0, cells := 0, slots := 0, locals := 0 } : Room) s m #[(.ref o0_), (.int (2 : Int32)), (.int x0_)] below meth c s₁ [] 0 0 := Stand.of_body Bd
  have e0 : s₁.heap = h0 := by rw [← hh, Bd.state]; rfl
  have N0 := Fr.nil n0
  obtain ⟨G, pre0, hG⟩ : ∃ G : State → Prop, (∀ t, own_S p e below m s₁ 0 #[lvR o0_, lvI (2 : Int32), lvI x0_] [] t → G t) ∧ (∀ t, G t → Steps p.tables e below (s₁.setTop (entryFrame m #[(.ref o0_), (.int (2 : Int32)), (.int x0_)] 3)) t) := ⟨fun t => Steps p.tables e below (s₁.setTop (entryFrame m #[(.ref o0_), (.int (2 : Int32)), (.int x0_)] 3)) t, fun t k => castTop (efputChar31 m o0_ x0_) k, fun _ k => k⟩
  have K0 : Keep h0 h0 [o0_] := Keep.refl _ _
  obtain ⟨T1, X1, e1, st1⟩ := getS2 X0 hx hZ hown (host := "") (Or.inl (own_w hw 59 rfl)) Via.refl e0 (P2.ext O0.2) (g := (mkF m 0 #[lvR o0_, lvI (2 : Int32), lvI x0_] [])) rfl (hb hby d6_0)
  obtain ⟨T2, X2, e2, st2⟩ := getS2 X1 hx hZ hown (host := "") (Or.inl (own_w hw 60 rfl)) Via.refl e1 (P3.ext O0.2) (g := (mkF m 38 #[lvR o0_, lvI (5 : Int32), lvI x0_] [(.int x0_), (.int (4 : Int32)), (.ref o0_)])) rfl (hb hby d6_38)
  obtain ⟨c3, r3, q3, s3, z3, y3, G3⟩ := id P0
  have hin3 : ¬ ((4 : Int32) < 0 ∨ c3.slots.size ≤ ((4 : Int32)).toNatClampNeg) := inb_of s3 ⟨by decide, by decide⟩
  obtain ⟨T3, h3, X3, e3, W3, st3⟩ := stB X2 hx hZ e2 r3 (j := (4 : Int32)) hin3 (g := (mkF m 43 #[lvR o0_, lvI (5 : Int32), lvI x0_] [(.int ((x0_ >>> ((0 : Int32) &&& 31)).toInt8.toInt32)), (.int (4 : Int32)), (.ref o0_)])) rfl rfl (hb hby d6_43)
  have N4 := Fr.snoc X3 N0 P4
  have f5 : Arv Z h3 o0_ ko0_ .byte (6 : Int32) [(.int x1_), (.int x2_), (.int x3_), (.int x4_), (.int (((x0_ >>> ((0 : Int32) &&& 31)).toInt8.toInt32).toInt8.toInt32)), (.int (0 : Int32))] (.int (0 : Int32)) := Arv.set r3 q3 s3 z3 y3 G3 (fits_nar_byte _) W3 4 rfl (Nat.le_of_ble_eq_true rfl)
  have f6 : Arv Z h3 o0_ ko0_ .byte (6 : Int32) [(.int x1_), (.int x2_), (.int x3_), (.int x4_), (.int ((x0_ >>> ((0 : Int32) &&& 31)).toInt8.toInt32)), (.int (0 : Int32))] (.int (0 : Int32)) := by have q := f5; rw [own_i2b2] at q; exact q
  have f7 : Old Z n0 h3 := O0.wr W3 P4
  obtain ⟨T8, X8, e8, st8⟩ := getS2 X3 hx hZ hown (host := "") (Or.inl (own_w hw 61 rfl)) Via.refl e3 (P5.ext f7.2) (g := (mkF m 47 #[lvR o0_, lvI (5 : Int32), lvI x0_] [(.int x0_), (.int (5 : Int32)), (.ref o0_)])) rfl (hb hby d6_47)
  obtain ⟨c9, r9, q9, s9, z9, y9, G9⟩ := id f6
  have hin9 : ¬ ((5 : Int32) < 0 ∨ c9.slots.size ≤ ((5 : Int32)).toNatClampNeg) := inb_of s9 ⟨by decide, by decide⟩
  obtain ⟨T9, h9, X9, e9, W9, st9⟩ := stB X8 hx hZ e8 r9 (j := (5 : Int32)) hin9 (g := (mkF m 52 #[lvR o0_, lvI (5 : Int32), lvI x0_] [(.int ((x0_ >>> ((8 : Int32) &&& 31)).toInt8.toInt32)), (.int (5 : Int32)), (.ref o0_)])) rfl rfl (hb hby d6_52)
  have N10 := Fr.snoc X9 N4 P4
  have f11 : Arv Z h9 o0_ ko0_ .byte (6 : Int32) [(.int x1_), (.int x2_), (.int x3_), (.int x4_), (.int ((x0_ >>> ((0 : Int32) &&& 31)).toInt8.toInt32)), (.int (((x0_ >>> ((8 : Int32) &&& 31)).toInt8.toInt32).toInt8.toInt32))] (.int (0 : Int32)) := Arv.set r9 q9 s9 z9 y9 G9 (fits_nar_byte _) W9 5 rfl (Nat.le_of_ble_eq_true rfl)
  have f12 : Arv Z h9 o0_ ko0_ .byte (6 : Int32) [(.int x1_), (.int x2_), (.int x3_), (.int x4_), (.int ((x0_ >>> ((0 : Int32) &&& 31)).toInt8.toInt32)), (.int ((x0_ >>> ((8 : Int32) &&& 31)).toInt8.toInt32))] (.int (0 : Int32)) := by have q := f11; rw [own_i2b2] at q; exact q
  have pre13 : ∀ t, own_S p e below m T9 53 #[lvR o0_, lvI (5 : Int32), lvI x0_] [] t → G t := by
    intro t kt
    refine pre0 t ?_
    show own_S p e below m s₁ 0 #[lvR o0_, lvI (2 : Int32), lvI x0_] [] _
    refine st1 _ ?_
    show own_S p e below m T1 3 #[lvR o0_, lvI (2 : Int32), lvI x0_] [(.int (1 : Int32))] _
    refine XS.ifYes X1.here hx rfl (pc0 := 3) (pc' := 28) rfl (hb hby d6_3) rfl ((if0 _ _).trans (feq (by decide : ¬ ((1 : Int32) = (0 : Int32)))).2) (by decide) (by decide) ?_
    refine XS.iloadN X1.here hx rfl (hb hby d6_28) rfl ?_
    refine XS.iconst X1.here hx rfl (hb hby d6_29) ?_
    show own_S p e below m T1 30 #[lvR o0_, lvI (2 : Int32), lvI x0_] [(.int (1 : Int32)), (.int (2 : Int32))] _
    refine XS.ishl X1.here hx rfl (hb hby d6_30) rfl ?_
    refine XS.istoreN X1.here hx rfl (hb hby d6_31) rfl (l' := #[lvR o0_, lvI (4 : Int32), lvI x0_]) rfl ?_
    refine XS.aloadN X1.here hx rfl (hb hby d6_32) rfl rfl ?_
    refine XS.iloadN X1.here hx rfl (hb hby d6_33) rfl ?_
    refine XS.iinc X1.here hx rfl (hb hby d6_34) rfl (l' := #[lvR o0_, lvI (5 : Int32), lvI x0_]) rfl ?_
    refine XS.iloadN X1.here hx rfl (hb hby d6_37) rfl ?_
    show own_S p e below m T1 38 #[lvR o0_, lvI (5 : Int32), lvI x0_] [(.int x0_), (.int (4 : Int32)), (.ref o0_)] _
    refine st2 _ ?_
    show own_S p e below m T2 41 #[lvR o0_, lvI (5 : Int32), lvI x0_] [(.int (0 : Int32)), (.int x0_), (.int (4 : Int32)), (.ref o0_)] _
    refine XS.ishr X2.here hx rfl (hb hby d6_41) rfl ?_
    show own_S p e below m T2 42 #[lvR o0_, lvI (5 : Int32), lvI x0_] [(.int (x0_ >>> ((0 : Int32) &&& 31))), (.int (4 : Int32)), (.ref o0_)] _
    refine XS.i2b X2.here hx rfl (hb hby d6_42) rfl ?_
    show own_S p e below m T2 43 #[lvR o0_, lvI (5 : Int32), lvI x0_] [(.int ((x0_ >>> ((0 : Int32) &&& 31)).toInt8.toInt32)), (.int (4 : Int32)), (.ref o0_)] _
    refine st3 _ ?_
    refine XS.aloadN X3.here hx rfl (hb hby d6_44) rfl rfl ?_
    refine XS.iloadN X3.here hx rfl (hb hby d6_45) rfl ?_
    refine XS.iloadN X3.here hx rfl (hb hby d6_46) rfl ?_
    show own_S p e below m T3 47 #[lvR o0_, lvI (5 : Int32), lvI x0_] [(.int x0_), (.int (5 : Int32)), (.ref o0_)] _
    refine st8 _ ?_
    show own_S p e below m T8 50 #[lvR o0_, lvI (5 : Int32), lvI x0_] [(.int (8 : Int32)), (.int x0_), (.int (5 : Int32)), (.ref o0_)] _
    refine XS.ishr X8.here hx rfl (hb hby d6_50) rfl ?_
    show own_S p e below m T8 51 #[lvR o0_, lvI (5 : Int32), lvI x0_] [(.int (x0_ >>> ((8 : Int32) &&& 31))), (.int (5 : Int32)), (.ref o0_)] _
    refine XS.i2b X8.here hx rfl (hb hby d6_51) rfl ?_
    show own_S p e below m T8 52 #[lvR o0_, lvI (5 : Int32), lvI x0_] [(.int ((x0_ >>> ((8 : Int32) &&& 31)).toInt8.toInt32)), (.int (5 : Int32)), (.ref o0_)] _
    refine st9 _ ?_
    exact kt
  have f15 : Keep h0 h3 [o0_] := K0.wr W3 (Or.inl (List.mem_of_getElem? (i := 0) rfl))
  have f16 : Keep h0 h9 [o0_] := f15.wr W9 (Or.inl (List.mem_of_getElem? (i := 0) rfl))
  have f17 : Exa Z h3 o0_ "[B" := P1.wr W3
  have f18 : Exa Z h9 o0_ "[B" := f17.wr W9
  obtain ⟨fs, hr, hrun, hended, hW, hsame⟩ := X9.leave (v := none) (fun _ => rfl)
  refine ⟨_, _, hG _ (pre13 _ (X9.returnOut hx Bd.returns (hb hby d6_53) hr)), hrun, hended, _, _, rfl, ?_, ⟨_, rfl⟩, hW, hsame.mono (by decide) (by decide)⟩
  show QputChar31 Z o0_ x0_ ko0_ x1_ x2_ x3_ x4_ h0 n0 _ T9.heap _
  rw [e9]
  exact ⟨rfl, N10, f16, f12, f18⟩
theorem eftoBytes23 (m : MethodId) (o0_ : Addr) : entryFrame m #[(.ref o0_), (.int (0 : Int32)), (.int (3 : Int32))] 5 = mkF m 0 #[lvR o0_, lvI (0 : Int32), lvI (3 : Int32), .unset, .unset] [] := by first | (simp [entryFrame, mkF, argsToLocals, Value.category]; done) | rfl
def QtoBytes23 (Z : State) (o0_ : Addr) (ko0_ : ClassId) (x0_ : Int32) (x1_ : Int32) (x2_ : Int32) (h0 : Heap) (n0 : Nat) (v : Option Value) (h : Heap) (L : List Loc) : Prop := ∃ k3_1 : ClassId, ∃ nnb3_1 : Addr, v = some (.ref nnb3_1) ∧ Fr n0 L ∧ Keep h0 h [] ∧ h0.size ≤ nnb3_1 ∧ Arv Z h nnb3_1 k3_1 .byte (6 : Int32) [(.int ((x0_ >>> ((0 : Int32) &&& 31)).toInt8.toInt32)), (.int ((x0_ >>> ((8 : Int32) &&& 31)).toInt8.toInt32)), (.int ((x1_ >>> ((0 : Int32) &&& 31)).toInt8.toInt32)), (.int ((x1_ >>> ((8 : Int32) &&& 31)).toInt8.toInt32)), (.int ((x2_ >>> ((0 : Int32) &&& 31)).toInt8.toInt32)), (.int ((x2_ >>> ((8 : Int32) &&& 31)).toInt8.toInt32))] (.int (0 : Int32)) ∧ Exa Z h nnb3_1 "[B"
set_option maxRecDepth 65536 in
set_option maxHeartbeats 40000000 in
theorem rmtoBytes23 (l : Launch) (Z : State) (a0 : Array Value) (hw : ∀ d ∈ tables_1, d.before a0 Z = true) (ws : List Jvm.Cond) (o0_ : Addr) (ko0_ : ClassId) (x0_ : Int32) (x1_ : Int32) (x2_ : Int32) (h0 : Heap) (n0 : Nat) (O0 : Old Z n0 h0) (P0 : Arv Z h0 o0_ ko0_ .char (3 : Int32) [(.int x0_), (.int x1_), (.int x2_)] (.int (0 : Int32))) (P1 : Sta Z Z.heap "java/lang/StringUTF16" "$assertionsDisabled" "Z" (.int (1 : Int32))) (P2 : Sta Z Z.heap "java/lang/StringUTF16" "HI_BYTE_SHIFT" "I" (.int (0 : Int32))) (P3 : Sta Z Z.heap "java/lang/StringUTF16" "LO_BYTE_SHIFT" "I" (.int (8 : Int32))) :
    MetFree l (⟨"java/lang/StringUTF16", "toBytes", "([CII)[B"⟩ : MethodName) (head1 (Jvm.Cond.code (⟨"java/lang/StringUTF16", "toBytes", "([CII)[B"⟩ : MethodName) jdk_52_method_14_code 5 (some (.array .byte)) :: ws) ({ frames := 2, cells := 1, slots := 6, locals := 24 } : Room)) (fun a U => a = #[(.ref o0_), (.int (0 : Int32)), (.int (3 : Int32))] ∧ Z.Warmed39 U.vm ∧ U.heap = h0) (fun _ _ _ _ _ => True) (fun _ U o U' => ∃ v L, o = .returned v ∧ QtoBytes23 Z o0_ ko0_ x0_ x1_ x2_ h0 n0 v U'.heap L ∧ FrameEnd U o U' L ({ frames := 2, cells := 1, slots := 6, locals := 24 } : Room).cells ({ frames := 2, cells := 1, slots := 6, locals := 24 } : Room).slots) := by
  refine MetFree.of_bodySF (plainFor_of_name pn_0) hisR ?_
  intro p e s m args below meth c s₁ Bd hml0 hP hK
  obtain ⟨rfl, hZ, hh⟩ := hP
  have hx := Bd.exec
  have hby := Bd.bytes
  have hml : c.maxLocals = 5 := hml0
  have hown : s.vm.findClass "java/lang/StringUTF16" = some m.cls := findClass_of_methodNamed Bd.named
  have hnm := (name_of_methodNamed Bd.named Bd.method).1
  have X0 : Stand p l e ({ frames := 2, cells := 1, slots := 6, locals := 24 } : Room) s m #[(.ref o0_), (.int (0 : Int32)), (.int (3 : Int32))] below meth c s₁ [] 0 0 := Stand.of_body Bd
  have e0 : s₁.heap = h0 := by rw [← hh, Bd.state]; rfl
  have N0 := Fr.nil n0
  obtain ⟨G, pre0, hG⟩ : ∃ G : State → Prop, (∀ t, own_S p e below m s₁ 0 #[lvR o0_, lvI (0 : Int32), lvI (3 : Int32), .unset, .unset] [] t → G t) ∧ (∀ t, G t → Steps p.tables e below (s₁.setTop (entryFrame m #[(.ref o0_), (.int (0 : Int32)), (.int (3 : Int32))] 5)) t) := ⟨fun t => Steps p.tables e below (s₁.setTop (entryFrame m #[(.ref o0_), (.int (0 : Int32)), (.int (3 : Int32))] 5)) t, fun t k => castTop (eftoBytes23 m o0_) k, fun _ k => k⟩
  have K0 : Keep h0 h0 [] := Keep.refl _ _
  obtain ⟨_, _, ⟨T1, L1, k1, n1⟩, -, X1, ⟨Lc1, hQ1, l1, y1, z1⟩, st1⟩ := Jvm.LawKit.callS X0 hx (y := (⟨"java/lang/StringUTF16", "newBytesFor", "(I)[B"⟩ : MethodName)) hown (mvT hZ (own_w hw 49 rfl)) (mvT hZ (own_w hw 50 rfl)) (mvT hZ (own_w hw 17 rfl)) (mvT hZ (own_w hw 51 rfl)) (by decide) (backOf (W := 0) (rmnewBytesFor24 l Z a0 hw []  h0 n0 O0 ) hZ (own_w hw 51 rfl) (own_w hw 17 rfl) (by decide) (by decide)) (g := (mkF m 1 #[lvR o0_, lvI (0 : Int32), lvI (3 : Int32), .unset, .unset] [(.int (3 : Int32))])) rfl (by rw [hml]; rfl) (argsL := [(.int (3 : Int32))]) (rest := []) (lenOf pd_2 rfl) rfl (by show 2 * 0 + _ ≤ _; exact Nat.le_of_eq rfl) (hb hby d3_1) (fun _ _ => ⟨rfl, e0, (by decide : 0 + 1 ≤ _), (by decide : 0 + 6 ≤ _)⟩)
  dsimp only [Pt.U, Pt.locs, Pt.cells, Pt.slots] at X1 l1 y1 z1 st1 hQ1
  subst l1 y1 z1
  obtain ⟨h1, e1⟩ : ∃ z, T1.heap = z := ⟨_, rfl⟩
  rw [e1] at hQ1
  obtain ⟨k3_1, nb3_1, rfl, N1q, K1, sznb3_1, g1_0, g1_1⟩ := hQ1
  have N2 := Fr.app N0 N1q
  have ge3 : n0 ≤ nb3_1 := Nat.le_trans (Nat.le_trans (Nat.le_of_eq O0.1.symm) O0.2.1) sznb3_1
  have sz4 : h0.size ≤ nb3_1 := Nat.le_trans K0.1 sznb3_1
  have f5 : Arv Z h1 o0_ ko0_ .char (3 : Int32) [(.int x0_), (.int x1_), (.int x2_)] (.int (0 : Int32)) := P0.keep K1 nin0
  obtain ⟨c6, r6, q6, s6, z6, y6, G6⟩ := id f5
  have hin6 : ¬ ((0 : Int32) < 0 ∨ c6.slots.size ≤ ((0 : Int32)).toNatClampNeg) := inb_of s6 ⟨by decide, by decide⟩
  have hat6 : c6.slots[((0 : Int32)).toNatClampNeg]? = some (.int x0_) := Has.at y6 hin6 rfl
  have f8 : Old Z n0 h1 := O0.keep K1 all0
  obtain ⟨_, _, ⟨T7, L7, k7, n7⟩, -, X7, ⟨Lc7, hQ7, l7, y7, z7⟩, st7⟩ := Jvm.LawKit.callS X1 hx (y := (⟨"java/lang/StringUTF16", "putChar", "([BII)V"⟩ : MethodName)) hown (mvT hZ (own_w hw 56 rfl)) (mvT hZ (own_w hw 57 rfl)) (mvT hZ (own_w hw 17 rfl)) (mvT hZ (own_w hw 58 rfl)) (by decide) (backOf (W := 0) (rmputChar29 l Z a0 hw [] nb3_1 x0_ k3_1 h1 n0 f8 g1_0 g1_1 P1 P2 ge3 P3) hZ (own_w hw 58 rfl) (own_w hw 17 rfl) (by decide) (by decide)) (g := (mkF m 20 #[lvR o0_, lvI (0 : Int32), lvI (3 : Int32), lvR nb3_1, lvI (0 : Int32)] [(.int x0_), (.int (0 : Int32)), (.ref nb3_1)])) rfl (by rw [hml]; rfl) (argsL := [(.ref nb3_1), (.int (0 : Int32)), (.int x0_)]) (rest := []) (lenOf pd_3 rfl) rfl (by show 2 * 0 + _ ≤ _; exact Nat.le_of_eq rfl) (hb hby d3_20) (fun _ _ => ⟨rfl, e1, (by decide : 1 + 0 ≤ _), (by decide : 6 + 0 ≤ _)⟩)
  dsimp only [Pt.U, Pt.locs, Pt.cells, Pt.slots] at X7 l7 y7 z7 st7 hQ7
  subst l7 y7 z7
  obtain ⟨h7, e7⟩ : ∃ z, T7.heap = z := ⟨_, rfl⟩
  rw [e7] at hQ7
  obtain ⟨rfl, N7q, K7, g7_0, g7_1⟩ := hQ7
  have N9 := Fr.app N2 N7q
  have ne11 : o0_ ≠ nb3_1 := Nat.ne_of_lt (Nat.lt_of_lt_of_le P0.lt sznb3_1)
  have f10 : Arv Z h7 o0_ ko0_ .char (3 : Int32) [(.int x0_), (.int x1_), (.int x2_)] (.int (0 : Int32)) := f5.keep K7 (ninS ne11 nin0)
  obtain ⟨c12, r12, q12, s12, z12, y12, G12⟩ := id f10
  have hin12 : ¬ ((1 : Int32) < 0 ∨ c12.slots.size ≤ ((1 : Int32)).toNatClampNeg) := inb_of s12 ⟨by decide, by decide⟩
  have hat12 : c12.slots[((1 : Int32)).toNatClampNeg]? = some (.int x1_) := Has.at y12 hin12 rfl
  have f14 : Old Z n0 h7 := f8.keep K7 (allS (ge3) all0)
  obtain ⟨_, _, ⟨T13, L13, k13, n13⟩, -, X13, ⟨Lc13, hQ13, l13, y13, z13⟩, st13⟩ := Jvm.LawKit.callS X7 hx (y := (⟨"java/lang/StringUTF16", "putChar", "([BII)V"⟩ : MethodName)) hown (mvT hZ (own_w hw 56 rfl)) (mvT hZ (own_w hw 57 rfl)) (mvT hZ (own_w hw 17 rfl)) (mvT hZ (own_w hw 58 rfl)) (by decide) (backOf (W := 0) (rmputChar30 l Z a0 hw [] nb3_1 x1_ k3_1 ((x0_ >>> ((0 : Int32) &&& 31)).toInt8.toInt32) ((x0_ >>> ((8 : Int32) &&& 31)).toInt8.toInt32) h7 n0 f14 g7_0 g7_1 P1 P2 ge3 P3) hZ (own_w hw 58 rfl) (own_w hw 17 rfl) (by decide) (by decide)) (g := (mkF m 20 #[lvR o0_, lvI (1 : Int32), lvI (3 : Int32), lvR nb3_1, lvI (1 : Int32)] [(.int x1_), (.int (1 : Int32)), (.ref nb3_1)])) rfl (by rw [hml]; rfl) (argsL := [(.ref nb3_1), (.int (1 : Int32)), (.int x1_)]) (rest := []) (lenOf pd_3 rfl) rfl (by show 2 * 0 + _ ≤ _; exact Nat.le_of_eq rfl) (hb hby d3_20) (fun _ _ => ⟨rfl, e7, (by decide : 1 + 0 ≤ _), (by decide : 6 + 0 ≤ _)⟩)
  dsimp only [Pt.U, Pt.locs, Pt.cells, Pt.slots] at X13 l13 y13 z13 st13 hQ13
  subst l13 y13 z13
  obtain ⟨h13, e13⟩ : ∃ z, T13.heap = z := ⟨_, rfl⟩
  rw [e13] at hQ13
  obtain ⟨rfl, N13q, K13, g13_0, g13_1⟩ := hQ13
  have N15 := Fr.app N9 N13q
  have f16 : Arv Z h13 o0_ ko0_ .char (3 : Int32) [(.int x0_), (.int x1_), (.int x2_)] (.int (0 : Int32)) := f10.keep K13 (ninS ne11 nin0)
  obtain ⟨c17, r17, q17, s17, z17, y17, G17⟩ := id f16
  have hin17 : ¬ ((2 : Int32) < 0 ∨ c17.slots.size ≤ ((2 : Int32)).toNatClampNeg) := inb_of s17 ⟨by decide, by decide⟩
  have hat17 : c17.slots[((2 : Int32)).toNatClampNeg]? = some (.int x2_) := Has.at y17 hin17 rfl
  have f19 : Old Z n0 h13 := f14.keep K13 (allS (ge3) all0)
  obtain ⟨_, _, ⟨T18, L18, k18, n18⟩, -, X18, ⟨Lc18, hQ18, l18, y18, z18⟩, st18⟩ := Jvm.LawKit.callS X13 hx (y := (⟨"java/lang/StringUTF16", "putChar", "([BII)V"⟩ : MethodName)) hown (mvT hZ (own_w hw 56 rfl)) (mvT hZ (own_w hw 57 rfl)) (mvT hZ (own_w hw 17 rfl)) (mvT hZ (own_w hw 58 rfl)) (by decide) (backOf (W := 0) (rmputChar31 l Z a0 hw [] nb3_1 x2_ k3_1 ((x0_ >>> ((0 : Int32) &&& 31)).toInt8.toInt32) ((x0_ >>> ((8 : Int32) &&& 31)).toInt8.toInt32) ((x1_ >>> ((0 : Int32) &&& 31)).toInt8.toInt32) ((x1_ >>> ((8 : Int32) &&& 31)).toInt8.toInt32) h13 n0 f19 g13_0 g13_1 P1 P2 ge3 P3) hZ (own_w hw 58 rfl) (own_w hw 17 rfl) (by decide) (by decide)) (g := (mkF m 20 #[lvR o0_, lvI (2 : Int32), lvI (3 : Int32), lvR nb3_1, lvI (2 : Int32)] [(.int x2_), (.int (2 : Int32)), (.ref nb3_1)])) rfl (by rw [hml]; rfl) (argsL := [(.ref nb3_1), (.int (2 : Int32)), (.int x2_)]) (rest := []) (lenOf pd_3 rfl) rfl (by show 2 * 0 + _ ≤ _; exact Nat.le_of_eq rfl) (hb hby d3_20) (fun _ _ => ⟨rfl, e13, (by decide : 1 + 0 ≤ _), (by decide : 6 + 0 ≤ _)⟩)
  dsimp only [Pt.U, Pt.locs, Pt.cells, Pt.slots] at X18 l18 y18 z18 st18 hQ18
  subst l18 y18 z18
  obtain ⟨h18, e18⟩ : ∃ z, T18.heap = z := ⟨_, rfl⟩
  rw [e18] at hQ18
  obtain ⟨rfl, N18q, K18, g18_0, g18_1⟩ := hQ18
  have N20 := Fr.app N15 N18q
  have pre21 : ∀ t, own_S p e below m T18 33 #[lvR o0_, lvI (3 : Int32), lvI (3 : Int32), lvR nb3_1, lvI (3 : Int32)] [(.ref nb3_1)] t → G t := by
    intro t kt
    refine pre0 t ?_
    show own_S p e below m s₁ 0 #[lvR o0_, lvI (0 : Int32), lvI (3 : Int32), .unset, .unset] [] _
    refine XS.iloadN X0.here hx rfl (hb hby d3_0) rfl ?_
    show own_S p e below m s₁ 1 #[lvR o0_, lvI (0 : Int32), lvI (3 : Int32), .unset, .unset] [(.int (3 : Int32))] _
    refine st1 _ ?_
    refine XS.astoreN X1.here hx rfl (hb hby d3_4) rfl rfl (l' := #[lvR o0_, lvI (0 : Int32), lvI (3 : Int32), lvR nb3_1, .unset]) rfl ?_
    refine XS.iconst X1.here hx rfl (hb hby d3_5) ?_
    refine XS.istore X1.here hx rfl (hb hby d3_6) rfl (l' := #[lvR o0_, lvI (0 : Int32), lvI (3 : Int32), lvR nb3_1, lvI (0 : Int32)]) rfl ?_
    refine XS.iload X1.here hx rfl (hb hby d3_8) rfl ?_
    refine XS.iloadN X1.here hx rfl (hb hby d3_10) rfl ?_
    show own_S p e below m T1 11 #[lvR o0_, lvI (0 : Int32), lvI (3 : Int32), lvR nb3_1, lvI (0 : Int32)] [(.int (3 : Int32)), (.int (0 : Int32))] _
    refine XS.icmpNo X1.here hx rfl (hb hby d3_11) rfl (tlt (by decide : (0 : Int32) < (3 : Int32))).2.1 ?_
    refine XS.aloadN X1.here hx rfl (hb hby d3_14) rfl rfl ?_
    refine XS.iload X1.here hx rfl (hb hby d3_15) rfl ?_
    refine XS.aloadN X1.here hx rfl (hb hby d3_17) rfl rfl ?_
    refine XS.iloadN X1.here hx rfl (hb hby d3_18) rfl ?_
    show own_S p e below m T1 19 #[lvR o0_, lvI (0 : Int32), lvI (3 : Int32), lvR nb3_1, lvI (0 : Int32)] [(.int (0 : Int32)), (.ref o0_), (.int (0 : Int32)), (.ref nb3_1)] _
    refine X1.caload hx (j := (0 : Int32)) (v := (.int x0_)) (by rw [e1]; exact r6.1) (State.isArrayOf_alike hZ.alike r6.2.1) r6.2.2 hin6 hat6 (g := (mkF m 19 #[lvR o0_, lvI (0 : Int32), lvI (3 : Int32), lvR nb3_1, lvI (0 : Int32)] [(.int (0 : Int32)), (.ref o0_), (.int (0 : Int32)), (.ref nb3_1)])) rfl rfl (hb hby d3_19) _ ?_
    show own_S p e below m T1 20 #[lvR o0_, lvI (0 : Int32), lvI (3 : Int32), lvR nb3_1, lvI (0 : Int32)] [(.int x0_), (.int (0 : Int32)), (.ref nb3_1)] _
    refine st7 _ ?_
    refine XS.iinc X7.here hx rfl (hb hby d3_23) rfl (l' := #[lvR o0_, lvI (1 : Int32), lvI (3 : Int32), lvR nb3_1, lvI (0 : Int32)]) rfl ?_
    refine XS.iinc X7.here hx rfl (hb hby d3_26) rfl (l' := #[lvR o0_, lvI (1 : Int32), lvI (3 : Int32), lvR nb3_1, lvI (1 : Int32)]) rfl ?_
    refine XS.goto X7.here hx rfl (pc0 := 29) (pc' := 8) rfl (hb hby d3_29) (by decide) (by decide) ?_
    refine XS.iload X7.here hx rfl (hb hby d3_8) rfl ?_
    refine XS.iloadN X7.here hx rfl (hb hby d3_10) rfl ?_
    show own_S p e below m T7 11 #[lvR o0_, lvI (1 : Int32), lvI (3 : Int32), lvR nb3_1, lvI (1 : Int32)] [(.int (3 : Int32)), (.int (1 : Int32))] _
    refine XS.icmpNo X7.here hx rfl (hb hby d3_11) rfl (tlt (by decide : (1 : Int32) < (3 : Int32))).2.1 ?_
    refine XS.aloadN X7.here hx rfl (hb hby d3_14) rfl rfl ?_
    refine XS.iload X7.here hx rfl (hb hby d3_15) rfl ?_
    refine XS.aloadN X7.here hx rfl (hb hby d3_17) rfl rfl ?_
    refine XS.iloadN X7.here hx rfl (hb hby d3_18) rfl ?_
    show own_S p e below m T7 19 #[lvR o0_, lvI (1 : Int32), lvI (3 : Int32), lvR nb3_1, lvI (1 : Int32)] [(.int (1 : Int32)), (.ref o0_), (.int (1 : Int32)), (.ref nb3_1)] _
    refine X7.caload hx (j := (1 : Int32)) (v := (.int x1_)) (by rw [e7]; exact r12.1) (State.isArrayOf_alike hZ.alike r12.2.1) r12.2.2 hin12 hat12 (g := (mkF m 19 #[lvR o0_, lvI (1 : Int32), lvI (3 : Int32), lvR nb3_1, lvI (1 : Int32)] [(.int (1 : Int32)), (.ref o0_), (.int (1 : Int32)), (.ref nb3_1)])) rfl rfl (hb hby d3_19) _ ?_
    show own_S p e below m T7 20 #[lvR o0_, lvI (1 : Int32), lvI (3 : Int32), lvR nb3_1, lvI (1 : Int32)] [(.int x1_), (.int (1 : Int32)), (.ref nb3_1)] _
    refine st13 _ ?_
    refine XS.iinc X13.here hx rfl (hb hby d3_23) rfl (l' := #[lvR o0_, lvI (2 : Int32), lvI (3 : Int32), lvR nb3_1, lvI (1 : Int32)]) rfl ?_
    refine XS.iinc X13.here hx rfl (hb hby d3_26) rfl (l' := #[lvR o0_, lvI (2 : Int32), lvI (3 : Int32), lvR nb3_1, lvI (2 : Int32)]) rfl ?_
    refine XS.goto X13.here hx rfl (pc0 := 29) (pc' := 8) rfl (hb hby d3_29) (by decide) (by decide) ?_
    refine XS.iload X13.here hx rfl (hb hby d3_8) rfl ?_
    refine XS.iloadN X13.here hx rfl (hb hby d3_10) rfl ?_
    show own_S p e below m T13 11 #[lvR o0_, lvI (2 : Int32), lvI (3 : Int32), lvR nb3_1, lvI (2 : Int32)] [(.int (3 : Int32)), (.int (2 : Int32))] _
    refine XS.icmpNo X13.here hx rfl (hb hby d3_11) rfl (tlt (by decide : (2 : Int32) < (3 : Int32))).2.1 ?_
    refine XS.aloadN X13.here hx rfl (hb hby d3_14) rfl rfl ?_
    refine XS.iload X13.here hx rfl (hb hby d3_15) rfl ?_
    refine XS.aloadN X13.here hx rfl (hb hby d3_17) rfl rfl ?_
    refine XS.iloadN X13.here hx rfl (hb hby d3_18) rfl ?_
    show own_S p e below m T13 19 #[lvR o0_, lvI (2 : Int32), lvI (3 : Int32), lvR nb3_1, lvI (2 : Int32)] [(.int (2 : Int32)), (.ref o0_), (.int (2 : Int32)), (.ref nb3_1)] _
    refine X13.caload hx (j := (2 : Int32)) (v := (.int x2_)) (by rw [e13]; exact r17.1) (State.isArrayOf_alike hZ.alike r17.2.1) r17.2.2 hin17 hat17 (g := (mkF m 19 #[lvR o0_, lvI (2 : Int32), lvI (3 : Int32), lvR nb3_1, lvI (2 : Int32)] [(.int (2 : Int32)), (.ref o0_), (.int (2 : Int32)), (.ref nb3_1)])) rfl rfl (hb hby d3_19) _ ?_
    show own_S p e below m T13 20 #[lvR o0_, lvI (2 : Int32), lvI (3 : Int32), lvR nb3_1, lvI (2 : Int32)] [(.int x2_), (.int (2 : Int32)), (.ref nb3_1)] _
    refine st18 _ ?_
    refine XS.iinc X18.here hx rfl (hb hby d3_23) rfl (l' := #[lvR o0_, lvI (3 : Int32), lvI (3 : Int32), lvR nb3_1, lvI (2 : Int32)]) rfl ?_
    refine XS.iinc X18.here hx rfl (hb hby d3_26) rfl (l' := #[lvR o0_, lvI (3 : Int32), lvI (3 : Int32), lvR nb3_1, lvI (3 : Int32)]) rfl ?_
    refine XS.goto X18.here hx rfl (pc0 := 29) (pc' := 8) rfl (hb hby d3_29) (by decide) (by decide) ?_
    refine XS.iload X18.here hx rfl (hb hby d3_8) rfl ?_
    refine XS.iloadN X18.here hx rfl (hb hby d3_10) rfl ?_
    show own_S p e below m T18 11 #[lvR o0_, lvI (3 : Int32), lvI (3 : Int32), lvR nb3_1, lvI (3 : Int32)] [(.int (3 : Int32)), (.int (3 : Int32))] _
    refine XS.icmpYes X18.here hx rfl (pc0 := 11) (pc' := 32) rfl (hb hby d3_11) rfl (flt (by decide : ¬ ((3 : Int32) < (3 : Int32)))).2.1 (by decide) (by decide) ?_
    refine XS.aloadN X18.here hx rfl (hb hby d3_32) rfl rfl ?_
    exact kt
  have f23 : Keep h0 h1 [] := K0.trans K1 all0
  have f24 : Keep h0 h7 [] := f23.trans K7 (allS (Or.inr sz4) all0)
  have f25 : Keep h0 h13 [] := f24.trans K13 (allS (Or.inr sz4) all0)
  have f26 : Keep h0 h18 [] := f25.trans K18 (allS (Or.inr sz4) all0)
  obtain ⟨fs, hr, hrun, hended, hW, hsame⟩ := X18.leave (v := some (.ref nb3_1)) (fun h => by rw [Bd.returns] at h; cases h)
  refine ⟨_, _, hG _ (pre21 _ (retOut X18 hx Bd.returns rfl (Or.inr (Or.inr (Or.inr (Or.inr ⟨rfl, rfl, rfl⟩)))) (hb hby d3_33) hr)), hrun, hended, _, _, rfl, ?_, ⟨_, rfl⟩, hW, hsame.mono (by decide) (by decide)⟩
  show QtoBytes23 Z o0_ ko0_ x0_ x1_ x2_ h0 n0 _ T18.heap _
  rw [e18]
  exact ⟨k3_1, nb3_1, rfl, N20, f26, sz4, g18_0, g18_1⟩
theorem efgetChar32 (m : MethodId) (o0_ : Addr) : entryFrame m #[(.ref o0_), (.int (0 : Int32))] 2 = mkF m 0 #[lvR o0_, lvI (0 : Int32)] [] := by first | (simp [entryFrame, mkF, argsToLocals, Value.category]; done) | rfl
def QgetChar32 (Z : State) (o0_ : Addr) (ko0_ : ClassId) (x0_ : Int32) (x1_ : Int32) (x2_ : Int32) (x3_ : Int32) (x4_ : Int32) (x5_ : Int32) (h0 : Heap) (n0 : Nat) (v : Option Value) (h : Heap) (L : List Loc) : Prop := v = some (.int ((((x0_ &&& (255 : Int32)) <<< ((0 : Int32) &&& 31)) ||| ((x1_ &&& (255 : Int32)) <<< ((8 : Int32) &&& 31))).toUInt32.toUInt16.toUInt32.toInt32)) ∧ Fr n0 L ∧ h = h0
set_option maxRecDepth 65536 in
set_option maxHeartbeats 40000000 in
theorem rmgetChar32 (l : Launch) (Z : State) (a0 : Array Value) (hw : ∀ d ∈ tables_1, d.before a0 Z = true) (ws : List Jvm.Cond) (o0_ : Addr) (ko0_ : ClassId) (x0_ : Int32) (x1_ : Int32) (x2_ : Int32) (x3_ : Int32) (x4_ : Int32) (x5_ : Int32) (h0 : Heap) (n0 : Nat) (O0 : Old Z n0 h0) (P0 : Arv Z h0 o0_ ko0_ .byte (6 : Int32) [(.int x0_), (.int x1_), (.int x2_), (.int x3_), (.int x4_), (.int x5_)] (.int (0 : Int32))) (P1 : Exa Z h0 o0_ "[B") (P2 : Sta Z Z.heap "java/lang/StringUTF16" "$assertionsDisabled" "Z" (.int (1 : Int32))) (P3 : Sta Z Z.heap "java/lang/StringUTF16" "HI_BYTE_SHIFT" "I" (.int (0 : Int32))) (P4 : Sta Z Z.heap "java/lang/StringUTF16" "LO_BYTE_SHIFT" "I" (.int (8 : Int32))) :
    MetFree l (⟨"java/lang/StringUTF16", "getChar", "([BI)C"⟩ : MethodName) (head1 (Jvm.Cond.code (⟨"java/lang/StringUTF16", "getChar", "([BI)C"⟩ : MethodName) jdk_52_method_5_code 2 (some .char) :: ws) ({ frames := 0, cells := 0, slots := 0, locals := 0 } : Room)) (fun a U => a = #[(.ref o0_), (.int (0 : Int32))] ∧ Z.Warmed39 U.vm ∧ U.heap = h0) (fun _ _ _ _ _ => True) (fun _ U o U' => ∃ v L, o = .returned v ∧ QgetChar32 Z o0_ ko0_ x0_ x1_ x2_ x3_ x4_ x5_ h0 n0 v U'.heap L ∧ FrameEnd U o U' L ({ frames := 0, cells := 0, slots := 0, locals := 0 } : Room).cells ({ frames := 0, cells := 0, slots := 0, locals := 0 } : Room).slots) := by
  refine MetFree.of_bodySF (plainFor_of_name pn_0) hisR ?_
  intro p e s m args below meth c s₁ Bd hml0 hP hK
  obtain ⟨rfl, hZ, hh⟩ := hP
  have hx := Bd.exec
  have hby := Bd.bytes
  have hml : c.maxLocals = 2 := hml0
  have hown : s.vm.findClass "java/lang/StringUTF16" = some m.cls := findClass_of_methodNamed Bd.named
  have hnm := (name_of_methodNamed Bd.named Bd.method).1
  have X0 : Stand p l e ({ frames := 0, cells := 0, slots := 0, locals := 0 } : Room) s m #[(.ref o0_), (.int (0 : Int32))] below meth c s₁ [] 0 0 := Stand.of_body Bd
  have e0 : s₁.heap = h0 := by rw [← hh, Bd.state]; rfl
  have N0 := Fr.nil n0
  obtain ⟨G, pre0, hG⟩ : ∃ G : State → Prop, (∀ t, own_S p e below m s₁ 0 #[lvR o0_, lvI (0 : Int32)] [] t → G t) ∧ (∀ t, G t → Steps p.tables e below (s₁.setTop (entryFrame m #[(.ref o0_), (.int (0 : Int32))] 2)) t) := ⟨fun t => Steps p.tables e below (s₁.setTop (entryFrame m #[(.ref o0_), (.int (0 : Int32))] 2)) t, fun t k => castTop (efgetChar32 m o0_) k, fun _ k => k⟩
  have K0 : Keep h0 h0 [] := Keep.refl _ _
  obtain ⟨T1, X1, e1, st1⟩ := getS2 X0 hx hZ hown (host := "") (Or.inl (own_w hw 59 rfl)) Via.refl e0 (P2.ext O0.2) (g := (mkF m 0 #[lvR o0_, lvI (0 : Int32)] [])) rfl (hb hby d7_0)
  obtain ⟨c2, r2, q2, s2, z2, y2, G2⟩ := id P0
  have hin2 : ¬ ((0 : Int32) < 0 ∨ c2.slots.size ≤ ((0 : Int32)).toNatClampNeg) := inb_of s2 ⟨by decide, by decide⟩
  have hat2 : c2.slots[((0 : Int32)).toNatClampNeg]? = some (.int x0_) := Has.at y2 hin2 rfl
  obtain ⟨T3, X3, e3, st3⟩ := getS2 X1 hx hZ hown (host := "") (Or.inl (own_w hw 60 rfl)) Via.refl e1 (P3.ext O0.2) (g := (mkF m 42 #[lvR o0_, lvI (1 : Int32)] [(.int (x0_ &&& (255 : Int32)))])) rfl (hb hby d7_42)
  obtain ⟨c4, r4, q4, s4, z4, y4, G4⟩ := id P0
  have hin4 : ¬ ((1 : Int32) < 0 ∨ c4.slots.size ≤ ((1 : Int32)).toNatClampNeg) := inb_of s4 ⟨by decide, by decide⟩
  have hat4 : c4.slots[((1 : Int32)).toNatClampNeg]? = some (.int x1_) := Has.at y4 hin4 rfl
  obtain ⟨T5, X5, e5, st5⟩ := getS2 X3 hx hZ hown (host := "") (Or.inl (own_w hw 61 rfl)) Via.refl e3 (P4.ext O0.2) (g := (mkF m 53 #[lvR o0_, lvI (1 : Int32)] [(.int (x1_ &&& (255 : Int32))), (.int ((x0_ &&& (255 : Int32)) <<< ((0 : Int32) &&& 31)))])) rfl (hb hby d7_53)
  have pre6 : ∀ t, own_S p e below m T5 59 #[lvR o0_, lvI (1 : Int32)] [(.int ((((x0_ &&& (255 : Int32)) <<< ((0 : Int32) &&& 31)) ||| ((x1_ &&& (255 : Int32)) <<< ((8 : Int32) &&& 31))).toUInt32.toUInt16.toUInt32.toInt32))] t → G t := by
    intro t kt
    refine pre0 t ?_
    show own_S p e below m s₁ 0 #[lvR o0_, lvI (0 : Int32)] [] _
    refine st1 _ ?_
    show own_S p e below m T1 3 #[lvR o0_, lvI (0 : Int32)] [(.int (1 : Int32))] _
    refine XS.ifYes X1.here hx rfl (pc0 := 3) (pc' := 28) rfl (hb hby d7_3) rfl ((if0 _ _).trans (feq (by decide : ¬ ((1 : Int32) = (0 : Int32)))).2) (by decide) (by decide) ?_
    refine XS.iloadN X1.here hx rfl (hb hby d7_28) rfl ?_
    refine XS.iconst X1.here hx rfl (hb hby d7_29) ?_
    show own_S p e below m T1 30 #[lvR o0_, lvI (0 : Int32)] [(.int (1 : Int32)), (.int (0 : Int32))] _
    refine XS.ishl X1.here hx rfl (hb hby d7_30) rfl ?_
    refine XS.istoreN X1.here hx rfl (hb hby d7_31) rfl (l' := #[lvR o0_, lvI (0 : Int32)]) rfl ?_
    refine XS.aloadN X1.here hx rfl (hb hby d7_32) rfl rfl ?_
    refine XS.iloadN X1.here hx rfl (hb hby d7_33) rfl ?_
    refine XS.iinc X1.here hx rfl (hb hby d7_34) rfl (l' := #[lvR o0_, lvI (1 : Int32)]) rfl ?_
    show own_S p e below m T1 37 #[lvR o0_, lvI (1 : Int32)] [(.int (0 : Int32)), (.ref o0_)] _
    refine X1.baloadBytes hx (j := (0 : Int32)) (v := (.int x0_)) (by rw [e1]; exact r2.1) (State.isArrayOf_alike hZ.alike r2.2.1) r2.2.2 hin2 hat2 (g := (mkF m 37 #[lvR o0_, lvI (1 : Int32)] [(.int (0 : Int32)), (.ref o0_)])) rfl rfl (hb hby d7_37) _ ?_
    refine XS.sipush X1.here hx rfl (hb hby d7_38) ?_
    refine XS.iand X1.here hx rfl (hb hby d7_41) rfl ?_
    show own_S p e below m T1 42 #[lvR o0_, lvI (1 : Int32)] [(.int (x0_ &&& (255 : Int32)))] _
    refine st3 _ ?_
    show own_S p e below m T3 45 #[lvR o0_, lvI (1 : Int32)] [(.int (0 : Int32)), (.int (x0_ &&& (255 : Int32)))] _
    refine XS.ishl X3.here hx rfl (hb hby d7_45) rfl ?_
    refine XS.aloadN X3.here hx rfl (hb hby d7_46) rfl rfl ?_
    refine XS.iloadN X3.here hx rfl (hb hby d7_47) rfl ?_
    show own_S p e below m T3 48 #[lvR o0_, lvI (1 : Int32)] [(.int (1 : Int32)), (.ref o0_), (.int ((x0_ &&& (255 : Int32)) <<< ((0 : Int32) &&& 31)))] _
    refine X3.baloadBytes hx (j := (1 : Int32)) (v := (.int x1_)) (by rw [e3]; exact r4.1) (State.isArrayOf_alike hZ.alike r4.2.1) r4.2.2 hin4 hat4 (g := (mkF m 48 #[lvR o0_, lvI (1 : Int32)] [(.int (1 : Int32)), (.ref o0_), (.int ((x0_ &&& (255 : Int32)) <<< ((0 : Int32) &&& 31)))])) rfl rfl (hb hby d7_48) _ ?_
    refine XS.sipush X3.here hx rfl (hb hby d7_49) ?_
    refine XS.iand X3.here hx rfl (hb hby d7_52) rfl ?_
    show own_S p e below m T3 53 #[lvR o0_, lvI (1 : Int32)] [(.int (x1_ &&& (255 : Int32))), (.int ((x0_ &&& (255 : Int32)) <<< ((0 : Int32) &&& 31)))] _
    refine st5 _ ?_
    show own_S p e below m T5 56 #[lvR o0_, lvI (1 : Int32)] [(.int (8 : Int32)), (.int (x1_ &&& (255 : Int32))), (.int ((x0_ &&& (255 : Int32)) <<< ((0 : Int32) &&& 31)))] _
    refine XS.ishl X5.here hx rfl (hb hby d7_56) rfl ?_
    show own_S p e below m T5 57 #[lvR o0_, lvI (1 : Int32)] [(.int ((x1_ &&& (255 : Int32)) <<< ((8 : Int32) &&& 31))), (.int ((x0_ &&& (255 : Int32)) <<< ((0 : Int32) &&& 31)))] _
    refine XS.ior X5.here hx rfl (hb hby d7_57) rfl ?_
    show own_S p e below m T5 58 #[lvR o0_, lvI (1 : Int32)] [(.int (((x0_ &&& (255 : Int32)) <<< ((0 : Int32) &&& 31)) ||| ((x1_ &&& (255 : Int32)) <<< ((8 : Int32) &&& 31))))] _
    refine XS.i2c X5.here hx rfl (hb hby d7_58) rfl ?_
    exact kt
  obtain ⟨fs, hr, hrun, hended, hW, hsame⟩ := X5.leave (v := some (.int (nar .char ((((x0_ &&& (255 : Int32)) <<< ((0 : Int32) &&& 31)) ||| ((x1_ &&& (255 : Int32)) <<< ((8 : Int32) &&& 31))).toUInt32.toUInt16.toUInt32.toInt32)))) (fun h => by rw [Bd.returns] at h; cases h)
  refine ⟨_, _, hG _ (pre6 _ (retN X5 hx (t := .char) Bd.returns (by simp) (hb hby d7_59) hr)), hrun, hended, _, _, rfl, ?_, ⟨_, rfl⟩, hW, hsame.mono (by decide) (by decide)⟩
  show QgetChar32 Z o0_ ko0_ x0_ x1_ x2_ x3_ x4_ x5_ h0 n0 _ T5.heap _
  rw [e5]
  exact ⟨(by rw [own_narc]), N0, rfl⟩
theorem efgetChar33 (m : MethodId) (o0_ : Addr) : entryFrame m #[(.ref o0_), (.int (1 : Int32))] 2 = mkF m 0 #[lvR o0_, lvI (1 : Int32)] [] := by first | (simp [entryFrame, mkF, argsToLocals, Value.category]; done) | rfl
def QgetChar33 (Z : State) (o0_ : Addr) (ko0_ : ClassId) (x0_ : Int32) (x1_ : Int32) (x2_ : Int32) (x3_ : Int32) (x4_ : Int32) (x5_ : Int32) (h0 : Heap) (n0 : Nat) (v : Option Value) (h : Heap) (L : List Loc) : Prop := v = some (.int ((((x2_ &&& (255 : Int32)) <<< ((0 : Int32) &&& 31)) ||| ((x3_ &&& (255 : Int32)) <<< ((8 : Int32) &&& 31))).toUInt32.toUInt16.toUInt32.toInt32)) ∧ Fr n0 L ∧ h = h0
set_option maxRecDepth 65536 in
set_option maxHeartbeats 40000000 in
theorem rmgetChar33 (l : Launch) (Z : State) (a0 : Array Value) (hw : ∀ d ∈ tables_1, d.before a0 Z = true) (ws : List Jvm.Cond) (o0_ : Addr) (ko0_ : ClassId) (x0_ : Int32) (x1_ : Int32) (x2_ : Int32) (x3_ : Int32) (x4_ : Int32) (x5_ : Int32) (h0 : Heap) (n0 : Nat) (O0 : Old Z n0 h0) (P0 : Arv Z h0 o0_ ko0_ .byte (6 : Int32) [(.int x0_), (.int x1_), (.int x2_), (.int x3_), (.int x4_), (.int x5_)] (.int (0 : Int32))) (P1 : Exa Z h0 o0_ "[B") (P2 : Sta Z Z.heap "java/lang/StringUTF16" "$assertionsDisabled" "Z" (.int (1 : Int32))) (P3 : Sta Z Z.heap "java/lang/StringUTF16" "HI_BYTE_SHIFT" "I" (.int (0 : Int32))) (P4 : Sta Z Z.heap "java/lang/StringUTF16" "LO_BYTE_SHIFT" "I" (.int (8 : Int32))) :
    MetFree l (⟨"java/lang/StringUTF16", "getChar", "([BI)C"⟩ : MethodName) (head1 (Jvm.Cond.code (⟨"java/lang/StringUTF16", "getChar", "([BI)C"⟩ : MethodName) jdk_52_method_5_code 2 (some .char) :: ws) ({ frames := 0, cells := 0, slots := 0, locals := 0 } : Room)) (fun a U => a = #[(.ref o0_), (.int (1 : Int32))] ∧ Z.Warmed39 U.vm ∧ U.heap = h0) (fun _ _ _ _ _ => True) (fun _ U o U' => ∃ v L, o = .returned v ∧ QgetChar33 Z o0_ ko0_ x0_ x1_ x2_ x3_ x4_ x5_ h0 n0 v U'.heap L ∧ FrameEnd U o U' L ({ frames := 0, cells := 0, slots := 0, locals := 0 } : Room).cells ({ frames := 0, cells := 0, slots := 0, locals := 0 } : Room).slots) := by
  refine MetFree.of_bodySF (plainFor_of_name pn_0) hisR ?_
  intro p e s m args below meth c s₁ Bd hml0 hP hK
  obtain ⟨rfl, hZ, hh⟩ := hP
  have hx := Bd.exec
  have hby := Bd.bytes
  have hml : c.maxLocals = 2 := hml0
  have hown : s.vm.findClass "java/lang/StringUTF16" = some m.cls := findClass_of_methodNamed Bd.named
  have hnm := (name_of_methodNamed Bd.named Bd.method).1
  have X0 : Stand p l e ({ frames := 0, cells := 0, slots := 0, locals := 0 } : Room) s m #[(.ref o0_), (.int (1 : Int32))] below meth c s₁ [] 0 0 := Stand.of_body Bd
  have e0 : s₁.heap = h0 := by rw [← hh, Bd.state]; rfl
  have N0 := Fr.nil n0
  obtain ⟨G, pre0, hG⟩ : ∃ G : State → Prop, (∀ t, own_S p e below m s₁ 0 #[lvR o0_, lvI (1 : Int32)] [] t → G t) ∧ (∀ t, G t → Steps p.tables e below (s₁.setTop (entryFrame m #[(.ref o0_), (.int (1 : Int32))] 2)) t) := ⟨fun t => Steps p.tables e below (s₁.setTop (entryFrame m #[(.ref o0_), (.int (1 : Int32))] 2)) t, fun t k => castTop (efgetChar33 m o0_) k, fun _ k => k⟩
  have K0 : Keep h0 h0 [] := Keep.refl _ _
  obtain ⟨T1, X1, e1, st1⟩ := getS2 X0 hx hZ hown (host := "") (Or.inl (own_w hw 59 rfl)) Via.refl e0 (P2.ext O0.2) (g := (mkF m 0 #[lvR o0_, lvI (1 : Int32)] [])) rfl (hb hby d7_0)
  obtain ⟨c2, r2, q2, s2, z2, y2, G2⟩ := id P0
  have hin2 : ¬ ((2 : Int32) < 0 ∨ c2.slots.size ≤ ((2 : Int32)).toNatClampNeg) := inb_of s2 ⟨by decide, by decide⟩
  have hat2 : c2.slots[((2 : Int32)).toNatClampNeg]? = some (.int x2_) := Has.at y2 hin2 rfl
  obtain ⟨T3, X3, e3, st3⟩ := getS2 X1 hx hZ hown (host := "") (Or.inl (own_w hw 60 rfl)) Via.refl e1 (P3.ext O0.2) (g := (mkF m 42 #[lvR o0_, lvI (3 : Int32)] [(.int (x2_ &&& (255 : Int32)))])) rfl (hb hby d7_42)
  obtain ⟨c4, r4, q4, s4, z4, y4, G4⟩ := id P0
  have hin4 : ¬ ((3 : Int32) < 0 ∨ c4.slots.size ≤ ((3 : Int32)).toNatClampNeg) := inb_of s4 ⟨by decide, by decide⟩
  have hat4 : c4.slots[((3 : Int32)).toNatClampNeg]? = some (.int x3_) := Has.at y4 hin4 rfl
  obtain ⟨T5, X5, e5, st5⟩ := getS2 X3 hx hZ hown (host := "") (Or.inl (own_w hw 61 rfl)) Via.refl e3 (P4.ext O0.2) (g := (mkF m 53 #[lvR o0_, lvI (3 : Int32)] [(.int (x3_ &&& (255 : Int32))), (.int ((x2_ &&& (255 : Int32)) <<< ((0 : Int32) &&& 31)))])) rfl (hb hby d7_53)
  have pre6 : ∀ t, own_S p e below m T5 59 #[lvR o0_, lvI (3 : Int32)] [(.int ((((x2_ &&& (255 : Int32)) <<< ((0 : Int32) &&& 31)) ||| ((x3_ &&& (255 : Int32)) <<< ((8 : Int32) &&& 31))).toUInt32.toUInt16.toUInt32.toInt32))] t → G t := by
    intro t kt
    refine pre0 t ?_
    show own_S p e below m s₁ 0 #[lvR o0_, lvI (1 : Int32)] [] _
    refine st1 _ ?_
    show own_S p e below m T1 3 #[lvR o0_, lvI (1 : Int32)] [(.int (1 : Int32))] _
    refine XS.ifYes X1.here hx rfl (pc0 := 3) (pc' := 28) rfl (hb hby d7_3) rfl ((if0 _ _).trans (feq (by decide : ¬ ((1 : Int32) = (0 : Int32)))).2) (by decide) (by decide) ?_
    refine XS.iloadN X1.here hx rfl (hb hby d7_28) rfl ?_
    refine XS.iconst X1.here hx rfl (hb hby d7_29) ?_
    show own_S p e below m T1 30 #[lvR o0_, lvI (1 : Int32)] [(.int (1 : Int32)), (.int (1 : Int32))] _
    refine XS.ishl X1.here hx rfl (hb hby d7_30) rfl ?_
    refine XS.istoreN X1.here hx rfl (hb hby d7_31) rfl (l' := #[lvR o0_, lvI (2 : Int32)]) rfl ?_
    refine XS.aloadN X1.here hx rfl (hb hby d7_32) rfl rfl ?_
    refine XS.iloadN X1.here hx rfl (hb hby d7_33) rfl ?_
    refine XS.iinc X1.here hx rfl (hb hby d7_34) rfl (l' := #[lvR o0_, lvI (3 : Int32)]) rfl ?_
    show own_S p e below m T1 37 #[lvR o0_, lvI (3 : Int32)] [(.int (2 : Int32)), (.ref o0_)] _
    refine X1.baloadBytes hx (j := (2 : Int32)) (v := (.int x2_)) (by rw [e1]; exact r2.1) (State.isArrayOf_alike hZ.alike r2.2.1) r2.2.2 hin2 hat2 (g := (mkF m 37 #[lvR o0_, lvI (3 : Int32)] [(.int (2 : Int32)), (.ref o0_)])) rfl rfl (hb hby d7_37) _ ?_
    refine XS.sipush X1.here hx rfl (hb hby d7_38) ?_
    refine XS.iand X1.here hx rfl (hb hby d7_41) rfl ?_
    show own_S p e below m T1 42 #[lvR o0_, lvI (3 : Int32)] [(.int (x2_ &&& (255 : Int32)))] _
    refine st3 _ ?_
    show own_S p e below m T3 45 #[lvR o0_, lvI (3 : Int32)] [(.int (0 : Int32)), (.int (x2_ &&& (255 : Int32)))] _
    refine XS.ishl X3.here hx rfl (hb hby d7_45) rfl ?_
    refine XS.aloadN X3.here hx rfl (hb hby d7_46) rfl rfl ?_
    refine XS.iloadN X3.here hx rfl (hb hby d7_47) rfl ?_
    show own_S p e below m T3 48 #[lvR o0_, lvI (3 : Int32)] [(.int (3 : Int32)), (.ref o0_), (.int ((x2_ &&& (255 : Int32)) <<< ((0 : Int32) &&& 31)))] _
    refine X3.baloadBytes hx (j := (3 : Int32)) (v := (.int x3_)) (by rw [e3]; exact r4.1) (State.isArrayOf_alike hZ.alike r4.2.1) r4.2.2 hin4 hat4 (g := (mkF m 48 #[lvR o0_, lvI (3 : Int32)] [(.int (3 : Int32)), (.ref o0_), (.int ((x2_ &&& (255 : Int32)) <<< ((0 : Int32) &&& 31)))])) rfl rfl (hb hby d7_48) _ ?_
    refine XS.sipush X3.here hx rfl (hb hby d7_49) ?_
    refine XS.iand X3.here hx rfl (hb hby d7_52) rfl ?_
    show own_S p e below m T3 53 #[lvR o0_, lvI (3 : Int32)] [(.int (x3_ &&& (255 : Int32))), (.int ((x2_ &&& (255 : Int32)) <<< ((0 : Int32) &&& 31)))] _
    refine st5 _ ?_
    show own_S p e below m T5 56 #[lvR o0_, lvI (3 : Int32)] [(.int (8 : Int32)), (.int (x3_ &&& (255 : Int32))), (.int ((x2_ &&& (255 : Int32)) <<< ((0 : Int32) &&& 31)))] _
    refine XS.ishl X5.here hx rfl (hb hby d7_56) rfl ?_
    show own_S p e below m T5 57 #[lvR o0_, lvI (3 : Int32)] [(.int ((x3_ &&& (255 : Int32)) <<< ((8 : Int32) &&& 31))), (.int ((x2_ &&& (255 : Int32)) <<< ((0 : Int32) &&& 31)))] _
    refine XS.ior X5.here hx rfl (hb hby d7_57) rfl ?_
    show own_S p e below m T5 58 #[lvR o0_, lvI (3 : Int32)] [(.int (((x2_ &&& (255 : Int32)) <<< ((0 : Int32) &&& 31)) ||| ((x3_ &&& (255 : Int32)) <<< ((8 : Int32) &&& 31))))] _
    refine XS.i2c X5.here hx rfl (hb hby d7_58) rfl ?_
    exact kt
  obtain ⟨fs, hr, hrun, hended, hW, hsame⟩ := X5.leave (v := some (.int (nar .char ((((x2_ &&& (255 : Int32)) <<< ((0 : Int32) &&& 31)) ||| ((x3_ &&& (255 : Int32)) <<< ((8 : Int32) &&& 31))).toUInt32.toUInt16.toUInt32.toInt32)))) (fun h => by rw [Bd.returns] at h; cases h)
  refine ⟨_, _, hG _ (pre6 _ (retN X5 hx (t := .char) Bd.returns (by simp) (hb hby d7_59) hr)), hrun, hended, _, _, rfl, ?_, ⟨_, rfl⟩, hW, hsame.mono (by decide) (by decide)⟩
  show QgetChar33 Z o0_ ko0_ x0_ x1_ x2_ x3_ x4_ x5_ h0 n0 _ T5.heap _
  rw [e5]
  exact ⟨(by rw [own_narc]), N0, rfl⟩
theorem efgetChar34 (m : MethodId) (o0_ : Addr) : entryFrame m #[(.ref o0_), (.int (2 : Int32))] 2 = mkF m 0 #[lvR o0_, lvI (2 : Int32)] [] := by first | (simp [entryFrame, mkF, argsToLocals, Value.category]; done) | rfl
def QgetChar34 (Z : State) (o0_ : Addr) (ko0_ : ClassId) (x0_ : Int32) (x1_ : Int32) (x2_ : Int32) (x3_ : Int32) (x4_ : Int32) (x5_ : Int32) (h0 : Heap) (n0 : Nat) (v : Option Value) (h : Heap) (L : List Loc) : Prop := v = some (.int ((((x4_ &&& (255 : Int32)) <<< ((0 : Int32) &&& 31)) ||| ((x5_ &&& (255 : Int32)) <<< ((8 : Int32) &&& 31))).toUInt32.toUInt16.toUInt32.toInt32)) ∧ Fr n0 L ∧ h = h0
set_option maxRecDepth 65536 in
set_option maxHeartbeats 40000000 in
theorem rmgetChar34 (l : Launch) (Z : State) (a0 : Array Value) (hw : ∀ d ∈ tables_1, d.before a0 Z = true) (ws : List Jvm.Cond) (o0_ : Addr) (ko0_ : ClassId) (x0_ : Int32) (x1_ : Int32) (x2_ : Int32) (x3_ : Int32) (x4_ : Int32) (x5_ : Int32) (h0 : Heap) (n0 : Nat) (O0 : Old Z n0 h0) (P0 : Arv Z h0 o0_ ko0_ .byte (6 : Int32) [(.int x0_), (.int x1_), (.int x2_), (.int x3_), (.int x4_), (.int x5_)] (.int (0 : Int32))) (P1 : Exa Z h0 o0_ "[B") (P2 : Sta Z Z.heap "java/lang/StringUTF16" "$assertionsDisabled" "Z" (.int (1 : Int32))) (P3 : Sta Z Z.heap "java/lang/StringUTF16" "HI_BYTE_SHIFT" "I" (.int (0 : Int32))) (P4 : Sta Z Z.heap "java/lang/StringUTF16" "LO_BYTE_SHIFT" "I" (.int (8 : Int32))) :
    MetFree l (⟨"java/lang/StringUTF16", "getChar", "([BI)C"⟩ : MethodName) (head1 (Jvm.Cond.code (⟨"java/lang/StringUTF16", "getChar", "([BI)C"⟩ : MethodName) jdk_52_method_5_code 2 (some .char) :: ws) ({ frames := 0, cells := 0, slots := 0, locals := 0 } : Room)) (fun a U => a = #[(.ref o0_), (.int (2 : Int32))] ∧ Z.Warmed39 U.vm ∧ U.heap = h0) (fun _ _ _ _ _ => True) (fun _ U o U' => ∃ v L, o = .returned v ∧ QgetChar34 Z o0_ ko0_ x0_ x1_ x2_ x3_ x4_ x5_ h0 n0 v U'.heap L ∧ FrameEnd U o U' L ({ frames := 0, cells := 0, slots := 0, locals := 0 } : Room).cells ({ frames := 0, cells := 0, slots := 0, locals := 0 } : Room).slots) := by
  refine MetFree.of_bodySF (plainFor_of_name pn_0) hisR ?_
  intro p e s m args below meth c s₁ Bd hml0 hP hK
  obtain ⟨rfl, hZ, hh⟩ := hP
  have hx := Bd.exec
  have hby := Bd.bytes
  have hml : c.maxLocals = 2 := hml0
  have hown : s.vm.findClass "java/lang/StringUTF16" = some m.cls := findClass_of_methodNamed Bd.named
  have hnm := (name_of_methodNamed Bd.named Bd.method).1
  have X0 : Stand p l e ({ frames := 0, cells := 0, slots := 0, locals := 0 } : Room) s m #[(.ref o0_), (.int (2 : Int32))] below meth c s₁ [] 0 0 := Stand.of_body Bd
  have e0 : s₁.heap = h0 := by rw [← hh, Bd.state]; rfl
  have N0 := Fr.nil n0
  obtain ⟨G, pre0, hG⟩ : ∃ G : State → Prop, (∀ t, own_S p e below m s₁ 0 #[lvR o0_, lvI (2 : Int32)] [] t → G t) ∧ (∀ t, G t → Steps p.tables e below (s₁.setTop (entryFrame m #[(.ref o0_), (.int (2 : Int32))] 2)) t) := ⟨fun t => Steps p.tables e below (s₁.setTop (entryFrame m #[(.ref o0_), (.int (2 : Int32))] 2)) t, fun t k => castTop (efgetChar34 m o0_) k, fun _ k => k⟩
  have K0 : Keep h0 h0 [] := Keep.refl _ _
  obtain ⟨T1, X1, e1, st1⟩ := getS2 X0 hx hZ hown (host := "") (Or.inl (own_w hw 59 rfl)) Via.refl e0 (P2.ext O0.2) (g := (mkF m 0 #[lvR o0_, lvI (2 : Int32)] [])) rfl (hb hby d7_0)
  obtain ⟨c2, r2, q2, s2, z2, y2, G2⟩ := id P0
  have hin2 : ¬ ((4 : Int32) < 0 ∨ c2.slots.size ≤ ((4 : Int32)).toNatClampNeg) := inb_of s2 ⟨by decide, by decide⟩
  have hat2 : c2.slots[((4 : Int32)).toNatClampNeg]? = some (.int x4_) := Has.at y2 hin2 rfl
  obtain ⟨T3, X3, e3, st3⟩ := getS2 X1 hx hZ hown (host := "") (Or.inl (own_w hw 60 rfl)) Via.refl e1 (P3.ext O0.2) (g := (mkF m 42 #[lvR o0_, lvI (5 : Int32)] [(.int (x4_ &&& (255 : Int32)))])) rfl (hb hby d7_42)
  obtain ⟨c4, r4, q4, s4, z4, y4, G4⟩ := id P0
  have hin4 : ¬ ((5 : Int32) < 0 ∨ c4.slots.size ≤ ((5 : Int32)).toNatClampNeg) := inb_of s4 ⟨by decide, by decide⟩
  have hat4 : c4.slots[((5 : Int32)).toNatClampNeg]? = some (.int x5_) := Has.at y4 hin4 rfl
  obtain ⟨T5, X5, e5, st5⟩ := getS2 X3 hx hZ hown (host := "") (Or.inl (own_w hw 61 rfl)) Via.refl e3 (P4.ext O0.2) (g := (mkF m 53 #[lvR o0_, lvI (5 : Int32)] [(.int (x5_ &&& (255 : Int32))), (.int ((x4_ &&& (255 : Int32)) <<< ((0 : Int32) &&& 31)))])) rfl (hb hby d7_53)
  have pre6 : ∀ t, own_S p e below m T5 59 #[lvR o0_, lvI (5 : Int32)] [(.int ((((x4_ &&& (255 : Int32)) <<< ((0 : Int32) &&& 31)) ||| ((x5_ &&& (255 : Int32)) <<< ((8 : Int32) &&& 31))).toUInt32.toUInt16.toUInt32.toInt32))] t → G t := by
    intro t kt
    refine pre0 t ?_
    show own_S p e below m s₁ 0 #[lvR o0_, lvI (2 : Int32)] [] _
    refine st1 _ ?_
    show own_S p e below m T1 3 #[lvR o0_, lvI (2 : Int32)] [(.int (1 : Int32))] _
    refine XS.ifYes X1.here hx rfl (pc0 := 3) (pc' := 28) rfl (hb hby d7_3) rfl ((if0 _ _).trans (feq (by decide : ¬ ((1 : Int32) = (0 : Int32)))).2) (by decide) (by decide) ?_
    refine XS.iloadN X1.here hx rfl (hb hby d7_28) rfl ?_
    refine XS.iconst X1.here hx rfl (hb hby d7_29) ?_
    show own_S p e below m T1 30 #[lvR o0_, lvI (2 : Int32)] [(.int (1 : Int32)), (.int (2 : Int32))] _
    refine XS.ishl X1.here hx rfl (hb hby d7_30) rfl ?_
    refine XS.istoreN X1.here hx rfl (hb hby d7_31) rfl (l' := #[lvR o0_, lvI (4 : Int32)]) rfl ?_
    refine XS.aloadN X1.here hx rfl (hb hby d7_32) rfl rfl ?_
    refine XS.iloadN X1.here hx rfl (hb hby d7_33) rfl ?_
    refine XS.iinc X1.here hx rfl (hb hby d7_34) rfl (l' := #[lvR o0_, lvI (5 : Int32)]) rfl ?_
    show own_S p e below m T1 37 #[lvR o0_, lvI (5 : Int32)] [(.int (4 : Int32)), (.ref o0_)] _
    refine X1.baloadBytes hx (j := (4 : Int32)) (v := (.int x4_)) (by rw [e1]; exact r2.1) (State.isArrayOf_alike hZ.alike r2.2.1) r2.2.2 hin2 hat2 (g := (mkF m 37 #[lvR o0_, lvI (5 : Int32)] [(.int (4 : Int32)), (.ref o0_)])) rfl rfl (hb hby d7_37) _ ?_
    refine XS.sipush X1.here hx rfl (hb hby d7_38) ?_
    refine XS.iand X1.here hx rfl (hb hby d7_41) rfl ?_
    show own_S p e below m T1 42 #[lvR o0_, lvI (5 : Int32)] [(.int (x4_ &&& (255 : Int32)))] _
    refine st3 _ ?_
    show own_S p e below m T3 45 #[lvR o0_, lvI (5 : Int32)] [(.int (0 : Int32)), (.int (x4_ &&& (255 : Int32)))] _
    refine XS.ishl X3.here hx rfl (hb hby d7_45) rfl ?_
    refine XS.aloadN X3.here hx rfl (hb hby d7_46) rfl rfl ?_
    refine XS.iloadN X3.here hx rfl (hb hby d7_47) rfl ?_
    show own_S p e below m T3 48 #[lvR o0_, lvI (5 : Int32)] [(.int (5 : Int32)), (.ref o0_), (.int ((x4_ &&& (255 : Int32)) <<< ((0 : Int32) &&& 31)))] _
    refine X3.baloadBytes hx (j := (5 : Int32)) (v := (.int x5_)) (by rw [e3]; exact r4.1) (State.isArrayOf_alike hZ.alike r4.2.1) r4.2.2 hin4 hat4 (g := (mkF m 48 #[lvR o0_, lvI (5 : Int32)] [(.int (5 : Int32)), (.ref o0_), (.int ((x4_ &&& (255 : Int32)) <<< ((0 : Int32) &&& 31)))])) rfl rfl (hb hby d7_48) _ ?_
    refine XS.sipush X3.here hx rfl (hb hby d7_49) ?_
    refine XS.iand X3.here hx rfl (hb hby d7_52) rfl ?_
    show own_S p e below m T3 53 #[lvR o0_, lvI (5 : Int32)] [(.int (x5_ &&& (255 : Int32))), (.int ((x4_ &&& (255 : Int32)) <<< ((0 : Int32) &&& 31)))] _
    refine st5 _ ?_
    show own_S p e below m T5 56 #[lvR o0_, lvI (5 : Int32)] [(.int (8 : Int32)), (.int (x5_ &&& (255 : Int32))), (.int ((x4_ &&& (255 : Int32)) <<< ((0 : Int32) &&& 31)))] _
    refine XS.ishl X5.here hx rfl (hb hby d7_56) rfl ?_
    show own_S p e below m T5 57 #[lvR o0_, lvI (5 : Int32)] [(.int ((x5_ &&& (255 : Int32)) <<< ((8 : Int32) &&& 31))), (.int ((x4_ &&& (255 : Int32)) <<< ((0 : Int32) &&& 31)))] _
    refine XS.ior X5.here hx rfl (hb hby d7_57) rfl ?_
    show own_S p e below m T5 58 #[lvR o0_, lvI (5 : Int32)] [(.int (((x4_ &&& (255 : Int32)) <<< ((0 : Int32) &&& 31)) ||| ((x5_ &&& (255 : Int32)) <<< ((8 : Int32) &&& 31))))] _
    refine XS.i2c X5.here hx rfl (hb hby d7_58) rfl ?_
    exact kt
  obtain ⟨fs, hr, hrun, hended, hW, hsame⟩ := X5.leave (v := some (.int (nar .char ((((x4_ &&& (255 : Int32)) <<< ((0 : Int32) &&& 31)) ||| ((x5_ &&& (255 : Int32)) <<< ((8 : Int32) &&& 31))).toUInt32.toUInt16.toUInt32.toInt32)))) (fun h => by rw [Bd.returns] at h; cases h)
  refine ⟨_, _, hG _ (pre6 _ (retN X5 hx (t := .char) Bd.returns (by simp) (hb hby d7_59) hr)), hrun, hended, _, _, rfl, ?_, ⟨_, rfl⟩, hW, hsame.mono (by decide) (by decide)⟩
  show QgetChar34 Z o0_ ko0_ x0_ x1_ x2_ x3_ x4_ x5_ h0 n0 _ T5.heap _
  rw [e5]
  exact ⟨(by rw [own_narc]), N0, rfl⟩
theorem efCq3 (m : MethodId) (sr_ : Addr) : entryFrame m #[(.ref sr_), (.int (0 : Int32)), (.int (3 : Int32))] 6 = mkF m 0 #[lvR sr_, lvI (0 : Int32), lvI (3 : Int32), .unset, .unset, .unset] [] := by first | (simp [entryFrame, mkF, argsToLocals, Value.category]; done) | rfl
def QCq3 (Z : State) (sr_ : Addr) (ks_ : ClassId) (x0_ : Int32) (x1_ : Int32) (x2_ : Int32) (w_COMPACT_STRINGS : Int32) (h0 : Heap) (n0 : Nat) (v : Option Value) (h : Heap) (L : List Loc) : Prop := ∃ k_w : ClassId, ∃ z_w : Int32, ∃ vs_w : List Value, ∃ nw_ : Addr, v = some (.ref nw_) ∧ Fr n0 L ∧ Keep h0 h [] ∧ h0.size ≤ nw_ ∧ Exa Z h nw_ "[B" ∧ Arv Z h nw_ k_w .byte z_w vs_w (.int (0 : Int32)) ∧ own_two (3 : Int32) z_w
set_option maxRecDepth 65536 in
set_option maxHeartbeats 40000000 in
theorem rmCq3 (l : Launch) (Z : State) (a0 : Array Value) (hw : ∀ d ∈ tables_1, d.before a0 Z = true) (ws : List Jvm.Cond) (sr_ : Addr) (ks_ : ClassId) (x0_ : Int32) (x1_ : Int32) (x2_ : Int32) (w_COMPACT_STRINGS : Int32) (h0 : Heap) (n0 : Nat) (O0 : Old Z n0 h0) (hc0_ : own_chr x0_) (hc1_ : own_chr x1_) (hc2_ : own_chr x2_) (hz_0 : ¬ (w_COMPACT_STRINGS = (0 : Int32))) (P4 : Arv Z h0 sr_ ks_ .char (3 : Int32) [(.int x0_), (.int x1_), (.int x2_)] (.int (0 : Int32))) (P5 : Sta Z Z.heap "java/lang/String" "COMPACT_STRINGS" "Z" (.int w_COMPACT_STRINGS)) (P6 : Sta Z Z.heap "java/lang/StringUTF16" "$assertionsDisabled" "Z" (.int (1 : Int32))) (P7 : Sta Z Z.heap "java/lang/StringUTF16" "HI_BYTE_SHIFT" "I" (.int (0 : Int32))) (P8 : Sta Z Z.heap "java/lang/StringUTF16" "LO_BYTE_SHIFT" "I" (.int (8 : Int32))) :
    MetFree l (⟨"java/lang/StringUTF16", "compress", "([CII)[B"⟩ : MethodName) (head1 (Jvm.Cond.code (⟨"java/lang/StringUTF16", "compress", "([CII)[B"⟩ : MethodName) jdk_52_method_16_code 6 (some (.array .byte)) :: ws) ({ frames := 3, cells := 2, slots := 9, locals := 40 } : Room)) (fun a U => a = #[(.ref sr_), (.int (0 : Int32)), (.int (3 : Int32))] ∧ Z.Warmed39 U.vm ∧ U.heap = h0) (fun _ _ _ _ _ => True) (fun _ U o U' => ∃ v L, o = .returned v ∧ QCq3 Z sr_ ks_ x0_ x1_ x2_ w_COMPACT_STRINGS h0 n0 v U'.heap L ∧ FrameEnd U o U' L ({ frames := 3, cells := 2, slots := 9, locals := 40 } : Room).cells ({ frames := 3, cells := 2, slots := 9, locals := 40 } : Room).slots) := by
  refine MetFree.of_bodySF (plainFor_of_name pn_0) hisR ?_
  intro p e s m args below meth c s₁ Bd hml0 hP hK
  obtain ⟨rfl, hZ, hh⟩ := hP
  have hx := Bd.exec
  have hby := Bd.bytes
  have hml : c.maxLocals = 6 := hml0
  have hown : s.vm.findClass "java/lang/StringUTF16" = some m.cls := findClass_of_methodNamed Bd.named
  have hnm := (name_of_methodNamed Bd.named Bd.method).1
  have X0 : Stand p l e ({ frames := 3, cells := 2, slots := 9, locals := 40 } : Room) s m #[(.ref sr_), (.int (0 : Int32)), (.int (3 : Int32))] below meth c s₁ [] 0 0 := Stand.of_body Bd
  have e0 : s₁.heap = h0 := by rw [← hh, Bd.state]; rfl
  have N0 := Fr.nil n0
  obtain ⟨G, pre0, hG⟩ : ∃ G : State → Prop, (∀ t, own_S p e below m s₁ 0 #[lvR sr_, lvI (0 : Int32), lvI (3 : Int32), .unset, .unset, .unset] [] t → G t) ∧ (∀ t, G t → Steps p.tables e below (s₁.setTop (entryFrame m #[(.ref sr_), (.int (0 : Int32)), (.int (3 : Int32))] 6)) t) := ⟨fun t => Steps p.tables e below (s₁.setTop (entryFrame m #[(.ref sr_), (.int (0 : Int32)), (.int (3 : Int32))] 6)) t, fun t k => castTop (efCq3 m sr_) k, fun _ k => k⟩
  have K0 : Keep h0 h0 [] := Keep.refl _ _
  obtain ⟨T1, h1, k1, X1, e1, E1, A1, Z1, st1⟩ := newPE X0 hx hZ (own_w hw 19 rfl) e0 (g := (mkF m 1 #[lvR sr_, lvI (0 : Int32), lvI (3 : Int32), .unset, .unset, .unset] [(.int (3 : Int32))])) rfl (hb hby d2_1) rfl (by decide) (cap := 3) (by decide) (by decide) (by decide) (by decide) (ad := "[B") (by decide)
  obtain ⟨b1, g1⟩ : ∃ z, z = h0.size := ⟨_, rfl⟩
  rw [← g1] at A1 Z1 st1
  have ge2 : n0 ≤ b1 := Nat.le_trans (Nat.le_trans (Nat.le_of_eq O0.1.symm) O0.2.1) (Nat.le_of_eq g1.symm)
  have sz3 : h0.size ≤ b1 := Nat.le_trans K0.1 (Nat.le_of_eq g1.symm)
  have f4 : Arv Z h1 b1 k1 .byte (3 : Int32) [(.int (0 : Int32)), (.int (0 : Int32)), (.int (0 : Int32))] (.int (0 : Int32)) := (Arv.new A1 (by decide)).pad (pad_rep [] (.int (0 : Int32)) 3)
  have f6 : Arv Z h1 sr_ ks_ .char (3 : Int32) [(.int x0_), (.int x1_), (.int x2_)] (.int (0 : Int32)) := P4.ext E1
  have ne7 : sr_ ≠ b1 := Nat.ne_of_lt (Nat.lt_of_lt_of_le P4.lt (Nat.le_of_eq g1.symm))
  have f8 : Old Z n0 h1 := O0.ext E1
  obtain ⟨_, _, ⟨T5, L5, k5, n5⟩, -, X5, ⟨Lc5, hQ5, l5, y5, z5⟩, st5⟩ := Jvm.LawKit.callS X1 hx (y := (⟨"java/lang/StringUTF16", "compress", "([CI[BII)I"⟩ : MethodName)) hown (mvT hZ (own_w hw 20 rfl)) (mvT hZ (own_w hw 21 rfl)) (mvT hZ (own_w hw 17 rfl)) (mvT hZ (own_w hw 22 rfl)) (by decide) (backOf (W := 0) (rmCp3 l Z a0 hw [] sr_ ks_ b1 k1 x0_ x1_ x2_ h1 n0 f8 f6 f4 ge2 ne7) hZ (own_w hw 22 rfl) (own_w hw 17 rfl) (by decide) (by decide)) (g := (mkF m 9 #[lvR sr_, lvI (0 : Int32), lvI (3 : Int32), lvR b1, .unset, .unset] [(.int (3 : Int32)), (.int (0 : Int32)), (.ref b1), (.int (0 : Int32)), (.ref sr_)])) rfl (by rw [hml]; rfl) (argsL := [(.ref sr_), (.int (0 : Int32)), (.ref b1), (.int (0 : Int32)), (.int (3 : Int32))]) (rest := []) (lenOf pd_0 rfl) rfl (by show 2 * 0 + _ ≤ _; exact Nat.le_of_eq rfl) (hb hby d2_9) (fun _ _ => ⟨rfl, e1, (by decide : 1 + 0 ≤ _), (by decide : 3 + 0 ≤ _)⟩)
  dsimp only [Pt.U, Pt.locs, Pt.cells, Pt.slots] at X5 l5 y5 z5 st5 hQ5
  subst l5 y5 z5
  obtain ⟨h5, e5⟩ : ∃ z, T5.heap = z := ⟨_, rfl⟩
  rw [e5] at hQ5
  obtain ⟨vs_w_5, rr5, rfl, hs5, N5q, K5, g5_0⟩ := hQ5
  have N9 := Fr.app N0 N5q
  rcases hs5 with ⟨rfl, hq5_0_0⟩ | ⟨rfl, hq5_1_0, hq5_1_1⟩ | ⟨rfl, hq5_2_0, hq5_2_1, hq5_2_2⟩ | ⟨rfl, hq5_3_0, hq5_3_1, hq5_3_2⟩
  · have f11 : Arv Z h5 sr_ ks_ .char (3 : Int32) [(.int x0_), (.int x1_), (.int x2_)] (.int (0 : Int32)) := f6.keep K5 (ninS ne7 nin0)
    have f12 : Old Z n0 h5 := f8.keep K5 (allS (ge2) all0)
    obtain ⟨_, _, ⟨T10, L10, k10, n10⟩, -, X10, ⟨Lc10, hQ10, l10, y10, z10⟩, st10⟩ := Jvm.LawKit.callS X5 hx (y := (⟨"java/lang/StringUTF16", "toBytes", "([CII)[B"⟩ : MethodName)) hown (mvT hZ (own_w hw 46 rfl)) (mvT hZ (own_w hw 47 rfl)) (mvT hZ (own_w hw 17 rfl)) (mvT hZ (own_w hw 48 rfl)) (by decide) (backOf (W := 0) (rmtoBytes23 l Z a0 hw [] sr_ ks_ x0_ x1_ x2_ h5 n0 f12 f11 P6 P7 P8) hZ (own_w hw 48 rfl) (own_w hw 17 rfl) (by decide) (by decide)) (g := (mkF m 23 #[lvR sr_, lvI (0 : Int32), lvI (3 : Int32), lvR b1, lvI (0 : Int32), .unset] [(.int (3 : Int32)), (.int (0 : Int32)), (.ref sr_)])) rfl (by rw [hml]; rfl) (argsL := [(.ref sr_), (.int (0 : Int32)), (.int (3 : Int32))]) (rest := []) (lenOf pd_4 rfl) rfl (by show 2 * 0 + _ ≤ _; exact Nat.le_of_eq rfl) (hb hby d2_23) (fun _ _ => ⟨rfl, e5, (by decide : 1 + 1 ≤ _), (by decide : 3 + 6 ≤ _)⟩)
    dsimp only [Pt.U, Pt.locs, Pt.cells, Pt.slots] at X10 l10 y10 z10 st10 hQ10
    subst l10 y10 z10
    obtain ⟨h10, e10⟩ : ∃ z, T10.heap = z := ⟨_, rfl⟩
    rw [e10] at hQ10
    obtain ⟨k3_1_10, nnb3_1_10, rfl, N10q, K10, sznnb3_1_10, g10_0, g10_1⟩ := hQ10
    have N13 := Fr.app N9 N10q
    have ge14 : n0 ≤ nnb3_1_10 := Nat.le_trans (Nat.le_trans (Nat.le_of_eq f12.1.symm) f12.2.1) sznnb3_1_10
    have f15 : Keep h0 h1 [] := K0.ext E1
    have f16 : Keep h0 h5 [] := f15.trans K5 (allS (Or.inr sz3) all0)
    have sz17 : h0.size ≤ nnb3_1_10 := Nat.le_trans f16.1 sznnb3_1_10
    have f19 : Old Z n0 h10 := f12.keep K10 all0
    obtain ⟨_, _, ⟨T18, L18, k18, n18⟩, -, X18, ⟨Lc18, hQ18, l18, y18, z18⟩, st18⟩ := Jvm.LawKit.callS X10 hx (y := (⟨"java/lang/StringUTF16", "getChar", "([BI)C"⟩ : MethodName)) hown (mvT hZ (own_w hw 62 rfl)) (mvT hZ (own_w hw 63 rfl)) (mvT hZ (own_w hw 17 rfl)) (mvT hZ (own_w hw 64 rfl)) (by decide) (backOf (W := 0) (rmgetChar32 l Z a0 hw [] nnb3_1_10 k3_1_10 ((x0_ >>> ((0 : Int32) &&& 31)).toInt8.toInt32) ((x0_ >>> ((8 : Int32) &&& 31)).toInt8.toInt32) ((x1_ >>> ((0 : Int32) &&& 31)).toInt8.toInt32) ((x1_ >>> ((8 : Int32) &&& 31)).toInt8.toInt32) ((x2_ >>> ((0 : Int32) &&& 31)).toInt8.toInt32) ((x2_ >>> ((8 : Int32) &&& 31)).toInt8.toInt32) h10 n0 f19 g10_0 g10_1 P6 P7 P8) hZ (own_w hw 64 rfl) (own_w hw 17 rfl) (by decide) (by decide)) (g := (mkF m 32 #[lvR sr_, lvI (0 : Int32), lvI (3 : Int32), lvR b1, lvI (0 : Int32), lvR nnb3_1_10] [(.int (0 : Int32)), (.ref nnb3_1_10)])) rfl (by rw [hml]; rfl) (argsL := [(.ref nnb3_1_10), (.int (0 : Int32))]) (rest := []) (lenOf pd_5 rfl) rfl (by show 2 * 0 + _ ≤ _; exact Nat.le_of_eq rfl) (hb hby d2_32) (fun _ _ => ⟨rfl, e10, (by decide : 2 + 0 ≤ _), (by decide : 9 + 0 ≤ _)⟩)
    dsimp only [Pt.U, Pt.locs, Pt.cells, Pt.slots] at X18 l18 y18 z18 st18 hQ18
    subst l18 y18 z18
    obtain ⟨h18, e18⟩ : ∃ z, T18.heap = z := ⟨_, rfl⟩
    rw [e18] at hQ18
    obtain ⟨rfl, N18q, hh18⟩ := hQ18
    have N20 := Fr.app N13 N18q
    have e18' : T18.heap = h10 := e18.trans hh18
    have hn21 : (255 : Int32) < ((((((x0_ >>> ((0 : Int32) &&& 31)).toInt8.toInt32) &&& (255 : Int32)) <<< ((0 : Int32) &&& 31)) ||| ((((x0_ >>> ((8 : Int32) &&& 31)).toInt8.toInt32) &&& (255 : Int32)) <<< ((8 : Int32) &&& 31))).toUInt32.toUInt16.toUInt32.toInt32) := own_getc hc0_ hq5_0_0
    have pre22 : ∀ t, own_S p e below m T18 56 #[lvR sr_, lvI (0 : Int32), lvI (3 : Int32), lvR b1, lvI (0 : Int32), lvR nnb3_1_10] [(.ref nnb3_1_10)] t → G t := by
      intro t kt
      refine pre0 t ?_
      show own_S p e below m s₁ 0 #[lvR sr_, lvI (0 : Int32), lvI (3 : Int32), .unset, .unset, .unset] [] _
      refine XS.iloadN X0.here hx rfl (hb hby d2_0) rfl ?_
      show own_S p e below m s₁ 1 #[lvR sr_, lvI (0 : Int32), lvI (3 : Int32), .unset, .unset, .unset] [(.int (3 : Int32))] _
      refine st1 _ ?_
      refine XS.astoreN X1.here hx rfl (hb hby d2_3) rfl rfl (l' := #[lvR sr_, lvI (0 : Int32), lvI (3 : Int32), lvR b1, .unset, .unset]) rfl ?_
      refine XS.aloadN X1.here hx rfl (hb hby d2_4) rfl rfl ?_
      refine XS.iloadN X1.here hx rfl (hb hby d2_5) rfl ?_
      refine XS.aloadN X1.here hx rfl (hb hby d2_6) rfl rfl ?_
      refine XS.iconst X1.here hx rfl (hb hby d2_7) ?_
      show own_S p e below m T1 8 #[lvR sr_, lvI (0 : Int32), lvI (3 : Int32), lvR b1, .unset, .unset] [(.int (0 : Int32)), (.ref b1), (.int (0 : Int32)), (.ref sr_)] _
      refine XS.iloadN X1.here hx rfl (hb hby d2_8) rfl ?_
      show own_S p e below m T1 9 #[lvR sr_, lvI (0 : Int32), lvI (3 : Int32), lvR b1, .unset, .unset] [(.int (3 : Int32)), (.int (0 : Int32)), (.ref b1), (.int (0 : Int32)), (.ref sr_)] _
      refine st5 _ ?_
      refine XS.istore X5.here hx rfl (hb hby d2_12) rfl (l' := #[lvR sr_, lvI (0 : Int32), lvI (3 : Int32), lvR b1, lvI (0 : Int32), .unset]) rfl ?_
      refine XS.iload X5.here hx rfl (hb hby d2_14) rfl ?_
      refine XS.iloadN X5.here hx rfl (hb hby d2_16) rfl ?_
      show own_S p e below m T5 17 #[lvR sr_, lvI (0 : Int32), lvI (3 : Int32), lvR b1, lvI (0 : Int32), .unset] [(.int (3 : Int32)), (.int (0 : Int32))] _
      refine XS.icmpNo X5.here hx rfl (hb hby d2_17) rfl (feq (by decide : ¬ ((0 : Int32) = (3 : Int32)))).1 ?_
      refine XS.aloadN X5.here hx rfl (hb hby d2_20) rfl rfl ?_
      refine XS.iloadN X5.here hx rfl (hb hby d2_21) rfl ?_
      refine XS.iloadN X5.here hx rfl (hb hby d2_22) rfl ?_
      show own_S p e below m T5 23 #[lvR sr_, lvI (0 : Int32), lvI (3 : Int32), lvR b1, lvI (0 : Int32), .unset] [(.int (3 : Int32)), (.int (0 : Int32)), (.ref sr_)] _
      refine st10 _ ?_
      refine XS.astore X10.here hx rfl (hb hby d2_26) rfl rfl (l' := #[lvR sr_, lvI (0 : Int32), lvI (3 : Int32), lvR b1, lvI (0 : Int32), lvR nnb3_1_10]) rfl ?_
      refine XS.aload X10.here hx rfl (hb hby d2_28) rfl rfl ?_
      refine XS.iload X10.here hx rfl (hb hby d2_30) rfl ?_
      show own_S p e below m T10 32 #[lvR sr_, lvI (0 : Int32), lvI (3 : Int32), lvR b1, lvI (0 : Int32), lvR nnb3_1_10] [(.int (0 : Int32)), (.ref nnb3_1_10)] _
      refine st18 _ ?_
      refine XS.sipush X18.here hx rfl (hb hby d2_35) ?_
      show own_S p e below m T18 38 #[lvR sr_, lvI (0 : Int32), lvI (3 : Int32), lvR b1, lvI (0 : Int32), lvR nnb3_1_10] [(.int (255 : Int32)), (.int ((((((x0_ >>> ((0 : Int32) &&& 31)).toInt8.toInt32) &&& (255 : Int32)) <<< ((0 : Int32) &&& 31)) ||| ((((x0_ >>> ((8 : Int32) &&& 31)).toInt8.toInt32) &&& (255 : Int32)) <<< ((8 : Int32) &&& 31))).toUInt32.toUInt16.toUInt32.toInt32))] _
      refine XS.icmpYes X18.here hx rfl (pc0 := 38) (pc' := 54) rfl (hb hby d2_38) rfl (tlt hn21).2.2.1 (by decide) (by decide) ?_
      refine XS.aload X18.here hx rfl (hb hby d2_54) rfl rfl ?_
      exact kt
    have f24 : Keep h0 h10 [] := f16.trans K10 all0
    obtain ⟨fs, hr, hrun, hended, hW, hsame⟩ := X18.leave (v := some (.ref nnb3_1_10)) (fun h => by rw [Bd.returns] at h; cases h)
    refine ⟨_, _, hG _ (pre22 _ (retOut X18 hx Bd.returns rfl (Or.inr (Or.inr (Or.inr (Or.inr ⟨rfl, rfl, rfl⟩)))) (hb hby d2_56) hr)), hrun, hended, _, _, rfl, ?_, ⟨_, rfl⟩, hW, hsame.mono (by decide) (by decide)⟩
    show QCq3 Z sr_ ks_ x0_ x1_ x2_ w_COMPACT_STRINGS h0 n0 _ T18.heap _
    rw [e18']
    exact ⟨k3_1_10, (6 : Int32), [(.int ((x0_ >>> ((0 : Int32) &&& 31)).toInt8.toInt32)), (.int ((x0_ >>> ((8 : Int32) &&& 31)).toInt8.toInt32)), (.int ((x1_ >>> ((0 : Int32) &&& 31)).toInt8.toInt32)), (.int ((x1_ >>> ((8 : Int32) &&& 31)).toInt8.toInt32)), (.int ((x2_ >>> ((0 : Int32) &&& 31)).toInt8.toInt32)), (.int ((x2_ >>> ((8 : Int32) &&& 31)).toInt8.toInt32))], nnb3_1_10, rfl, N20, f24, sz17, g10_1, g10_0, (Or.inr (by decide))⟩
  · have f26 : Arv Z h5 sr_ ks_ .char (3 : Int32) [(.int x0_), (.int x1_), (.int x2_)] (.int (0 : Int32)) := f6.keep K5 (ninS ne7 nin0)
    have f27 : Old Z n0 h5 := f8.keep K5 (allS (ge2) all0)
    obtain ⟨_, _, ⟨T25, L25, k25, n25⟩, -, X25, ⟨Lc25, hQ25, l25, y25, z25⟩, st25⟩ := Jvm.LawKit.callS X5 hx (y := (⟨"java/lang/StringUTF16", "toBytes", "([CII)[B"⟩ : MethodName)) hown (mvT hZ (own_w hw 46 rfl)) (mvT hZ (own_w hw 47 rfl)) (mvT hZ (own_w hw 17 rfl)) (mvT hZ (own_w hw 48 rfl)) (by decide) (backOf (W := 0) (rmtoBytes23 l Z a0 hw [] sr_ ks_ x0_ x1_ x2_ h5 n0 f27 f26 P6 P7 P8) hZ (own_w hw 48 rfl) (own_w hw 17 rfl) (by decide) (by decide)) (g := (mkF m 23 #[lvR sr_, lvI (0 : Int32), lvI (3 : Int32), lvR b1, lvI (1 : Int32), .unset] [(.int (3 : Int32)), (.int (0 : Int32)), (.ref sr_)])) rfl (by rw [hml]; rfl) (argsL := [(.ref sr_), (.int (0 : Int32)), (.int (3 : Int32))]) (rest := []) (lenOf pd_4 rfl) rfl (by show 2 * 0 + _ ≤ _; exact Nat.le_of_eq rfl) (hb hby d2_23) (fun _ _ => ⟨rfl, e5, (by decide : 1 + 1 ≤ _), (by decide : 3 + 6 ≤ _)⟩)
    dsimp only [Pt.U, Pt.locs, Pt.cells, Pt.slots] at X25 l25 y25 z25 st25 hQ25
    subst l25 y25 z25
    obtain ⟨h25, e25⟩ : ∃ z, T25.heap = z := ⟨_, rfl⟩
    rw [e25] at hQ25
    obtain ⟨k3_1_25, nnb3_1_25, rfl, N25q, K25, sznnb3_1_25, g25_0, g25_1⟩ := hQ25
    have N28 := Fr.app N9 N25q
    have ge29 : n0 ≤ nnb3_1_25 := Nat.le_trans (Nat.le_trans (Nat.le_of_eq f27.1.symm) f27.2.1) sznnb3_1_25
    have f30 : Keep h0 h1 [] := K0.ext E1
    have f31 : Keep h0 h5 [] := f30.trans K5 (allS (Or.inr sz3) all0)
    have sz32 : h0.size ≤ nnb3_1_25 := Nat.le_trans f31.1 sznnb3_1_25
    have f34 : Old Z n0 h25 := f27.keep K25 all0
    obtain ⟨_, _, ⟨T33, L33, k33, n33⟩, -, X33, ⟨Lc33, hQ33, l33, y33, z33⟩, st33⟩ := Jvm.LawKit.callS X25 hx (y := (⟨"java/lang/StringUTF16", "getChar", "([BI)C"⟩ : MethodName)) hown (mvT hZ (own_w hw 62 rfl)) (mvT hZ (own_w hw 63 rfl)) (mvT hZ (own_w hw 17 rfl)) (mvT hZ (own_w hw 64 rfl)) (by decide) (backOf (W := 0) (rmgetChar33 l Z a0 hw [] nnb3_1_25 k3_1_25 ((x0_ >>> ((0 : Int32) &&& 31)).toInt8.toInt32) ((x0_ >>> ((8 : Int32) &&& 31)).toInt8.toInt32) ((x1_ >>> ((0 : Int32) &&& 31)).toInt8.toInt32) ((x1_ >>> ((8 : Int32) &&& 31)).toInt8.toInt32) ((x2_ >>> ((0 : Int32) &&& 31)).toInt8.toInt32) ((x2_ >>> ((8 : Int32) &&& 31)).toInt8.toInt32) h25 n0 f34 g25_0 g25_1 P6 P7 P8) hZ (own_w hw 64 rfl) (own_w hw 17 rfl) (by decide) (by decide)) (g := (mkF m 32 #[lvR sr_, lvI (0 : Int32), lvI (3 : Int32), lvR b1, lvI (1 : Int32), lvR nnb3_1_25] [(.int (1 : Int32)), (.ref nnb3_1_25)])) rfl (by rw [hml]; rfl) (argsL := [(.ref nnb3_1_25), (.int (1 : Int32))]) (rest := []) (lenOf pd_5 rfl) rfl (by show 2 * 0 + _ ≤ _; exact Nat.le_of_eq rfl) (hb hby d2_32) (fun _ _ => ⟨rfl, e25, (by decide : 2 + 0 ≤ _), (by decide : 9 + 0 ≤ _)⟩)
    dsimp only [Pt.U, Pt.locs, Pt.cells, Pt.slots] at X33 l33 y33 z33 st33 hQ33
    subst l33 y33 z33
    obtain ⟨h33, e33⟩ : ∃ z, T33.heap = z := ⟨_, rfl⟩
    rw [e33] at hQ33
    obtain ⟨rfl, N33q, hh33⟩ := hQ33
    have N35 := Fr.app N28 N33q
    have e33' : T33.heap = h25 := e33.trans hh33
    have hn36 : (255 : Int32) < ((((((x1_ >>> ((0 : Int32) &&& 31)).toInt8.toInt32) &&& (255 : Int32)) <<< ((0 : Int32) &&& 31)) ||| ((((x1_ >>> ((8 : Int32) &&& 31)).toInt8.toInt32) &&& (255 : Int32)) <<< ((8 : Int32) &&& 31))).toUInt32.toUInt16.toUInt32.toInt32) := own_getc hc1_ hq5_1_1
    have pre37 : ∀ t, own_S p e below m T33 56 #[lvR sr_, lvI (0 : Int32), lvI (3 : Int32), lvR b1, lvI (1 : Int32), lvR nnb3_1_25] [(.ref nnb3_1_25)] t → G t := by
      intro t kt
      refine pre0 t ?_
      show own_S p e below m s₁ 0 #[lvR sr_, lvI (0 : Int32), lvI (3 : Int32), .unset, .unset, .unset] [] _
      refine XS.iloadN X0.here hx rfl (hb hby d2_0) rfl ?_
      show own_S p e below m s₁ 1 #[lvR sr_, lvI (0 : Int32), lvI (3 : Int32), .unset, .unset, .unset] [(.int (3 : Int32))] _
      refine st1 _ ?_
      refine XS.astoreN X1.here hx rfl (hb hby d2_3) rfl rfl (l' := #[lvR sr_, lvI (0 : Int32), lvI (3 : Int32), lvR b1, .unset, .unset]) rfl ?_
      refine XS.aloadN X1.here hx rfl (hb hby d2_4) rfl rfl ?_
      refine XS.iloadN X1.here hx rfl (hb hby d2_5) rfl ?_
      refine XS.aloadN X1.here hx rfl (hb hby d2_6) rfl rfl ?_
      refine XS.iconst X1.here hx rfl (hb hby d2_7) ?_
      show own_S p e below m T1 8 #[lvR sr_, lvI (0 : Int32), lvI (3 : Int32), lvR b1, .unset, .unset] [(.int (0 : Int32)), (.ref b1), (.int (0 : Int32)), (.ref sr_)] _
      refine XS.iloadN X1.here hx rfl (hb hby d2_8) rfl ?_
      show own_S p e below m T1 9 #[lvR sr_, lvI (0 : Int32), lvI (3 : Int32), lvR b1, .unset, .unset] [(.int (3 : Int32)), (.int (0 : Int32)), (.ref b1), (.int (0 : Int32)), (.ref sr_)] _
      refine st5 _ ?_
      refine XS.istore X5.here hx rfl (hb hby d2_12) rfl (l' := #[lvR sr_, lvI (0 : Int32), lvI (3 : Int32), lvR b1, lvI (1 : Int32), .unset]) rfl ?_
      refine XS.iload X5.here hx rfl (hb hby d2_14) rfl ?_
      refine XS.iloadN X5.here hx rfl (hb hby d2_16) rfl ?_
      show own_S p e below m T5 17 #[lvR sr_, lvI (0 : Int32), lvI (3 : Int32), lvR b1, lvI (1 : Int32), .unset] [(.int (3 : Int32)), (.int (1 : Int32))] _
      refine XS.icmpNo X5.here hx rfl (hb hby d2_17) rfl (feq (by decide : ¬ ((1 : Int32) = (3 : Int32)))).1 ?_
      refine XS.aloadN X5.here hx rfl (hb hby d2_20) rfl rfl ?_
      refine XS.iloadN X5.here hx rfl (hb hby d2_21) rfl ?_
      refine XS.iloadN X5.here hx rfl (hb hby d2_22) rfl ?_
      show own_S p e below m T5 23 #[lvR sr_, lvI (0 : Int32), lvI (3 : Int32), lvR b1, lvI (1 : Int32), .unset] [(.int (3 : Int32)), (.int (0 : Int32)), (.ref sr_)] _
      refine st25 _ ?_
      refine XS.astore X25.here hx rfl (hb hby d2_26) rfl rfl (l' := #[lvR sr_, lvI (0 : Int32), lvI (3 : Int32), lvR b1, lvI (1 : Int32), lvR nnb3_1_25]) rfl ?_
      refine XS.aload X25.here hx rfl (hb hby d2_28) rfl rfl ?_
      refine XS.iload X25.here hx rfl (hb hby d2_30) rfl ?_
      show own_S p e below m T25 32 #[lvR sr_, lvI (0 : Int32), lvI (3 : Int32), lvR b1, lvI (1 : Int32), lvR nnb3_1_25] [(.int (1 : Int32)), (.ref nnb3_1_25)] _
      refine st33 _ ?_
      refine XS.sipush X33.here hx rfl (hb hby d2_35) ?_
      show own_S p e below m T33 38 #[lvR sr_, lvI (0 : Int32), lvI (3 : Int32), lvR b1, lvI (1 : Int32), lvR nnb3_1_25] [(.int (255 : Int32)), (.int ((((((x1_ >>> ((0 : Int32) &&& 31)).toInt8.toInt32) &&& (255 : Int32)) <<< ((0 : Int32) &&& 31)) ||| ((((x1_ >>> ((8 : Int32) &&& 31)).toInt8.toInt32) &&& (255 : Int32)) <<< ((8 : Int32) &&& 31))).toUInt32.toUInt16.toUInt32.toInt32))] _
      refine XS.icmpYes X33.here hx rfl (pc0 := 38) (pc' := 54) rfl (hb hby d2_38) rfl (tlt hn36).2.2.1 (by decide) (by decide) ?_
      refine XS.aload X33.here hx rfl (hb hby d2_54) rfl rfl ?_
      exact kt
    have f39 : Keep h0 h25 [] := f31.trans K25 all0
    obtain ⟨fs, hr, hrun, hended, hW, hsame⟩ := X33.leave (v := some (.ref nnb3_1_25)) (fun h => by rw [Bd.returns] at h; cases h)
    refine ⟨_, _, hG _ (pre37 _ (retOut X33 hx Bd.returns rfl (Or.inr (Or.inr (Or.inr (Or.inr ⟨rfl, rfl, rfl⟩)))) (hb hby d2_56) hr)), hrun, hended, _, _, rfl, ?_, ⟨_, rfl⟩, hW, hsame.mono (by decide) (by decide)⟩
    show QCq3 Z sr_ ks_ x0_ x1_ x2_ w_COMPACT_STRINGS h0 n0 _ T33.heap _
    rw [e33']
    exact ⟨k3_1_25, (6 : Int32), [(.int ((x0_ >>> ((0 : Int32) &&& 31)).toInt8.toInt32)), (.int ((x0_ >>> ((8 : Int32) &&& 31)).toInt8.toInt32)), (.int ((x1_ >>> ((0 : Int32) &&& 31)).toInt8.toInt32)), (.int ((x1_ >>> ((8 : Int32) &&& 31)).toInt8.toInt32)), (.int ((x2_ >>> ((0 : Int32) &&& 31)).toInt8.toInt32)), (.int ((x2_ >>> ((8 : Int32) &&& 31)).toInt8.toInt32))], nnb3_1_25, rfl, N35, f39, sz32, g25_1, g25_0, (Or.inr (by decide))⟩
  · have f41 : Arv Z h5 sr_ ks_ .char (3 : Int32) [(.int x0_), (.int x1_), (.int x2_)] (.int (0 : Int32)) := f6.keep K5 (ninS ne7 nin0)
    have f42 : Old Z n0 h5 := f8.keep K5 (allS (ge2) all0)
    obtain ⟨_, _, ⟨T40, L40, k40, n40⟩, -, X40, ⟨Lc40, hQ40, l40, y40, z40⟩, st40⟩ := Jvm.LawKit.callS X5 hx (y := (⟨"java/lang/StringUTF16", "toBytes", "([CII)[B"⟩ : MethodName)) hown (mvT hZ (own_w hw 46 rfl)) (mvT hZ (own_w hw 47 rfl)) (mvT hZ (own_w hw 17 rfl)) (mvT hZ (own_w hw 48 rfl)) (by decide) (backOf (W := 0) (rmtoBytes23 l Z a0 hw [] sr_ ks_ x0_ x1_ x2_ h5 n0 f42 f41 P6 P7 P8) hZ (own_w hw 48 rfl) (own_w hw 17 rfl) (by decide) (by decide)) (g := (mkF m 23 #[lvR sr_, lvI (0 : Int32), lvI (3 : Int32), lvR b1, lvI (2 : Int32), .unset] [(.int (3 : Int32)), (.int (0 : Int32)), (.ref sr_)])) rfl (by rw [hml]; rfl) (argsL := [(.ref sr_), (.int (0 : Int32)), (.int (3 : Int32))]) (rest := []) (lenOf pd_4 rfl) rfl (by show 2 * 0 + _ ≤ _; exact Nat.le_of_eq rfl) (hb hby d2_23) (fun _ _ => ⟨rfl, e5, (by decide : 1 + 1 ≤ _), (by decide : 3 + 6 ≤ _)⟩)
    dsimp only [Pt.U, Pt.locs, Pt.cells, Pt.slots] at X40 l40 y40 z40 st40 hQ40
    subst l40 y40 z40
    obtain ⟨h40, e40⟩ : ∃ z, T40.heap = z := ⟨_, rfl⟩
    rw [e40] at hQ40
    obtain ⟨k3_1_40, nnb3_1_40, rfl, N40q, K40, sznnb3_1_40, g40_0, g40_1⟩ := hQ40
    have N43 := Fr.app N9 N40q
    have ge44 : n0 ≤ nnb3_1_40 := Nat.le_trans (Nat.le_trans (Nat.le_of_eq f42.1.symm) f42.2.1) sznnb3_1_40
    have f45 : Keep h0 h1 [] := K0.ext E1
    have f46 : Keep h0 h5 [] := f45.trans K5 (allS (Or.inr sz3) all0)
    have sz47 : h0.size ≤ nnb3_1_40 := Nat.le_trans f46.1 sznnb3_1_40
    have f49 : Old Z n0 h40 := f42.keep K40 all0
    obtain ⟨_, _, ⟨T48, L48, k48, n48⟩, -, X48, ⟨Lc48, hQ48, l48, y48, z48⟩, st48⟩ := Jvm.LawKit.callS X40 hx (y := (⟨"java/lang/StringUTF16", "getChar", "([BI)C"⟩ : MethodName)) hown (mvT hZ (own_w hw 62 rfl)) (mvT hZ (own_w hw 63 rfl)) (mvT hZ (own_w hw 17 rfl)) (mvT hZ (own_w hw 64 rfl)) (by decide) (backOf (W := 0) (rmgetChar34 l Z a0 hw [] nnb3_1_40 k3_1_40 ((x0_ >>> ((0 : Int32) &&& 31)).toInt8.toInt32) ((x0_ >>> ((8 : Int32) &&& 31)).toInt8.toInt32) ((x1_ >>> ((0 : Int32) &&& 31)).toInt8.toInt32) ((x1_ >>> ((8 : Int32) &&& 31)).toInt8.toInt32) ((x2_ >>> ((0 : Int32) &&& 31)).toInt8.toInt32) ((x2_ >>> ((8 : Int32) &&& 31)).toInt8.toInt32) h40 n0 f49 g40_0 g40_1 P6 P7 P8) hZ (own_w hw 64 rfl) (own_w hw 17 rfl) (by decide) (by decide)) (g := (mkF m 32 #[lvR sr_, lvI (0 : Int32), lvI (3 : Int32), lvR b1, lvI (2 : Int32), lvR nnb3_1_40] [(.int (2 : Int32)), (.ref nnb3_1_40)])) rfl (by rw [hml]; rfl) (argsL := [(.ref nnb3_1_40), (.int (2 : Int32))]) (rest := []) (lenOf pd_5 rfl) rfl (by show 2 * 0 + _ ≤ _; exact Nat.le_of_eq rfl) (hb hby d2_32) (fun _ _ => ⟨rfl, e40, (by decide : 2 + 0 ≤ _), (by decide : 9 + 0 ≤ _)⟩)
    dsimp only [Pt.U, Pt.locs, Pt.cells, Pt.slots] at X48 l48 y48 z48 st48 hQ48
    subst l48 y48 z48
    obtain ⟨h48, e48⟩ : ∃ z, T48.heap = z := ⟨_, rfl⟩
    rw [e48] at hQ48
    obtain ⟨rfl, N48q, hh48⟩ := hQ48
    have N50 := Fr.app N43 N48q
    have e48' : T48.heap = h40 := e48.trans hh48
    have hn51 : (255 : Int32) < ((((((x2_ >>> ((0 : Int32) &&& 31)).toInt8.toInt32) &&& (255 : Int32)) <<< ((0 : Int32) &&& 31)) ||| ((((x2_ >>> ((8 : Int32) &&& 31)).toInt8.toInt32) &&& (255 : Int32)) <<< ((8 : Int32) &&& 31))).toUInt32.toUInt16.toUInt32.toInt32) := own_getc hc2_ hq5_2_2
    have pre52 : ∀ t, own_S p e below m T48 56 #[lvR sr_, lvI (0 : Int32), lvI (3 : Int32), lvR b1, lvI (2 : Int32), lvR nnb3_1_40] [(.ref nnb3_1_40)] t → G t := by
      intro t kt
      refine pre0 t ?_
      show own_S p e below m s₁ 0 #[lvR sr_, lvI (0 : Int32), lvI (3 : Int32), .unset, .unset, .unset] [] _
      refine XS.iloadN X0.here hx rfl (hb hby d2_0) rfl ?_
      show own_S p e below m s₁ 1 #[lvR sr_, lvI (0 : Int32), lvI (3 : Int32), .unset, .unset, .unset] [(.int (3 : Int32))] _
      refine st1 _ ?_
      refine XS.astoreN X1.here hx rfl (hb hby d2_3) rfl rfl (l' := #[lvR sr_, lvI (0 : Int32), lvI (3 : Int32), lvR b1, .unset, .unset]) rfl ?_
      refine XS.aloadN X1.here hx rfl (hb hby d2_4) rfl rfl ?_
      refine XS.iloadN X1.here hx rfl (hb hby d2_5) rfl ?_
      refine XS.aloadN X1.here hx rfl (hb hby d2_6) rfl rfl ?_
      refine XS.iconst X1.here hx rfl (hb hby d2_7) ?_
      show own_S p e below m T1 8 #[lvR sr_, lvI (0 : Int32), lvI (3 : Int32), lvR b1, .unset, .unset] [(.int (0 : Int32)), (.ref b1), (.int (0 : Int32)), (.ref sr_)] _
      refine XS.iloadN X1.here hx rfl (hb hby d2_8) rfl ?_
      show own_S p e below m T1 9 #[lvR sr_, lvI (0 : Int32), lvI (3 : Int32), lvR b1, .unset, .unset] [(.int (3 : Int32)), (.int (0 : Int32)), (.ref b1), (.int (0 : Int32)), (.ref sr_)] _
      refine st5 _ ?_
      refine XS.istore X5.here hx rfl (hb hby d2_12) rfl (l' := #[lvR sr_, lvI (0 : Int32), lvI (3 : Int32), lvR b1, lvI (2 : Int32), .unset]) rfl ?_
      refine XS.iload X5.here hx rfl (hb hby d2_14) rfl ?_
      refine XS.iloadN X5.here hx rfl (hb hby d2_16) rfl ?_
      show own_S p e below m T5 17 #[lvR sr_, lvI (0 : Int32), lvI (3 : Int32), lvR b1, lvI (2 : Int32), .unset] [(.int (3 : Int32)), (.int (2 : Int32))] _
      refine XS.icmpNo X5.here hx rfl (hb hby d2_17) rfl (feq (by decide : ¬ ((2 : Int32) = (3 : Int32)))).1 ?_
      refine XS.aloadN X5.here hx rfl (hb hby d2_20) rfl rfl ?_
      refine XS.iloadN X5.here hx rfl (hb hby d2_21) rfl ?_
      refine XS.iloadN X5.here hx rfl (hb hby d2_22) rfl ?_
      show own_S p e below m T5 23 #[lvR sr_, lvI (0 : Int32), lvI (3 : Int32), lvR b1, lvI (2 : Int32), .unset] [(.int (3 : Int32)), (.int (0 : Int32)), (.ref sr_)] _
      refine st40 _ ?_
      refine XS.astore X40.here hx rfl (hb hby d2_26) rfl rfl (l' := #[lvR sr_, lvI (0 : Int32), lvI (3 : Int32), lvR b1, lvI (2 : Int32), lvR nnb3_1_40]) rfl ?_
      refine XS.aload X40.here hx rfl (hb hby d2_28) rfl rfl ?_
      refine XS.iload X40.here hx rfl (hb hby d2_30) rfl ?_
      show own_S p e below m T40 32 #[lvR sr_, lvI (0 : Int32), lvI (3 : Int32), lvR b1, lvI (2 : Int32), lvR nnb3_1_40] [(.int (2 : Int32)), (.ref nnb3_1_40)] _
      refine st48 _ ?_
      refine XS.sipush X48.here hx rfl (hb hby d2_35) ?_
      show own_S p e below m T48 38 #[lvR sr_, lvI (0 : Int32), lvI (3 : Int32), lvR b1, lvI (2 : Int32), lvR nnb3_1_40] [(.int (255 : Int32)), (.int ((((((x2_ >>> ((0 : Int32) &&& 31)).toInt8.toInt32) &&& (255 : Int32)) <<< ((0 : Int32) &&& 31)) ||| ((((x2_ >>> ((8 : Int32) &&& 31)).toInt8.toInt32) &&& (255 : Int32)) <<< ((8 : Int32) &&& 31))).toUInt32.toUInt16.toUInt32.toInt32))] _
      refine XS.icmpYes X48.here hx rfl (pc0 := 38) (pc' := 54) rfl (hb hby d2_38) rfl (tlt hn51).2.2.1 (by decide) (by decide) ?_
      refine XS.aload X48.here hx rfl (hb hby d2_54) rfl rfl ?_
      exact kt
    have f54 : Keep h0 h40 [] := f46.trans K40 all0
    obtain ⟨fs, hr, hrun, hended, hW, hsame⟩ := X48.leave (v := some (.ref nnb3_1_40)) (fun h => by rw [Bd.returns] at h; cases h)
    refine ⟨_, _, hG _ (pre52 _ (retOut X48 hx Bd.returns rfl (Or.inr (Or.inr (Or.inr (Or.inr ⟨rfl, rfl, rfl⟩)))) (hb hby d2_56) hr)), hrun, hended, _, _, rfl, ?_, ⟨_, rfl⟩, hW, hsame.mono (by decide) (by decide)⟩
    show QCq3 Z sr_ ks_ x0_ x1_ x2_ w_COMPACT_STRINGS h0 n0 _ T48.heap _
    rw [e48']
    exact ⟨k3_1_40, (6 : Int32), [(.int ((x0_ >>> ((0 : Int32) &&& 31)).toInt8.toInt32)), (.int ((x0_ >>> ((8 : Int32) &&& 31)).toInt8.toInt32)), (.int ((x1_ >>> ((0 : Int32) &&& 31)).toInt8.toInt32)), (.int ((x1_ >>> ((8 : Int32) &&& 31)).toInt8.toInt32)), (.int ((x2_ >>> ((0 : Int32) &&& 31)).toInt8.toInt32)), (.int ((x2_ >>> ((8 : Int32) &&& 31)).toInt8.toInt32))], nnb3_1_40, rfl, N50, f54, sz47, g40_1, g40_0, (Or.inr (by decide))⟩
  · have pre55 : ∀ t, own_S p e below m T5 58 #[lvR sr_, lvI (0 : Int32), lvI (3 : Int32), lvR b1, lvI (3 : Int32), .unset] [(.ref b1)] t → G t := by
      intro t kt
      refine pre0 t ?_
      show own_S p e below m s₁ 0 #[lvR sr_, lvI (0 : Int32), lvI (3 : Int32), .unset, .unset, .unset] [] _
      refine XS.iloadN X0.here hx rfl (hb hby d2_0) rfl ?_
      show own_S p e below m s₁ 1 #[lvR sr_, lvI (0 : Int32), lvI (3 : Int32), .unset, .unset, .unset] [(.int (3 : Int32))] _
      refine st1 _ ?_
      refine XS.astoreN X1.here hx rfl (hb hby d2_3) rfl rfl (l' := #[lvR sr_, lvI (0 : Int32), lvI (3 : Int32), lvR b1, .unset, .unset]) rfl ?_
      refine XS.aloadN X1.here hx rfl (hb hby d2_4) rfl rfl ?_
      refine XS.iloadN X1.here hx rfl (hb hby d2_5) rfl ?_
      refine XS.aloadN X1.here hx rfl (hb hby d2_6) rfl rfl ?_
      refine XS.iconst X1.here hx rfl (hb hby d2_7) ?_
      show own_S p e below m T1 8 #[lvR sr_, lvI (0 : Int32), lvI (3 : Int32), lvR b1, .unset, .unset] [(.int (0 : Int32)), (.ref b1), (.int (0 : Int32)), (.ref sr_)] _
      refine XS.iloadN X1.here hx rfl (hb hby d2_8) rfl ?_
      show own_S p e below m T1 9 #[lvR sr_, lvI (0 : Int32), lvI (3 : Int32), lvR b1, .unset, .unset] [(.int (3 : Int32)), (.int (0 : Int32)), (.ref b1), (.int (0 : Int32)), (.ref sr_)] _
      refine st5 _ ?_
      refine XS.istore X5.here hx rfl (hb hby d2_12) rfl (l' := #[lvR sr_, lvI (0 : Int32), lvI (3 : Int32), lvR b1, lvI (3 : Int32), .unset]) rfl ?_
      refine XS.iload X5.here hx rfl (hb hby d2_14) rfl ?_
      refine XS.iloadN X5.here hx rfl (hb hby d2_16) rfl ?_
      show own_S p e below m T5 17 #[lvR sr_, lvI (0 : Int32), lvI (3 : Int32), lvR b1, lvI (3 : Int32), .unset] [(.int (3 : Int32)), (.int (3 : Int32))] _
      refine XS.icmpYes X5.here hx rfl (pc0 := 17) (pc' := 57) rfl (hb hby d2_17) rfl (teq (by decide : (3 : Int32) = (3 : Int32))).1 (by decide) (by decide) ?_
      refine XS.aloadN X5.here hx rfl (hb hby d2_57) rfl rfl ?_
      exact kt
    have f57 : Exa Z h5 b1 "[B" := Z1.keep K5
    have f58 : Keep h0 h1 [] := K0.ext E1
    have f59 : Keep h0 h5 [] := f58.trans K5 (allS (Or.inr sz3) all0)
    obtain ⟨fs, hr, hrun, hended, hW, hsame⟩ := X5.leave (v := some (.ref b1)) (fun h => by rw [Bd.returns] at h; cases h)
    refine ⟨_, _, hG _ (pre55 _ (retOut X5 hx Bd.returns rfl (Or.inr (Or.inr (Or.inr (Or.inr ⟨rfl, rfl, rfl⟩)))) (hb hby d2_58) hr)), hrun, hended, _, _, rfl, ?_, ⟨_, rfl⟩, hW, hsame.mono (by decide) (by decide)⟩
    show QCq3 Z sr_ ks_ x0_ x1_ x2_ w_COMPACT_STRINGS h0 n0 _ T5.heap _
    rw [e5]
    exact ⟨k1, (3 : Int32), vs_w_5, b1, rfl, N9, f59, sz3, f57, g5_0, (Or.inl rfl)⟩
theorem efcoderFromArrayLen35 (m : MethodId) (o0_ : Addr) : entryFrame m #[(.ref o0_), (.int (3 : Int32))] 2 = mkF m 0 #[lvR o0_, lvI (3 : Int32)] [] := by first | (simp [entryFrame, mkF, argsToLocals, Value.category]; done) | rfl
def QcoderFromArrayLen35 (Z : State) (o0_ : Addr) (ko0_ : ClassId) (lo0_ : List Value) (h0 : Heap) (n0 : Nat) (v : Option Value) (h : Heap) (L : List Loc) : Prop := v = some (.int (0 : Int32)) ∧ Fr n0 L ∧ h = h0
set_option maxRecDepth 65536 in
set_option maxHeartbeats 40000000 in
theorem rmcoderFromArrayLen35 (l : Launch) (Z : State) (a0 : Array Value) (hw : ∀ d ∈ tables_1, d.before a0 Z = true) (ws : List Jvm.Cond) (o0_ : Addr) (ko0_ : ClassId) (lo0_ : List Value) (h0 : Heap) (n0 : Nat) (O0 : Old Z n0 h0) (P0 : Exa Z h0 o0_ "[B") (P1 : Arv Z h0 o0_ ko0_ .byte (3 : Int32) lo0_ (.int (0 : Int32))) :
    MetFree l (⟨"java/lang/StringUTF16", "coderFromArrayLen", "([BI)B"⟩ : MethodName) (head1 (Jvm.Cond.code (⟨"java/lang/StringUTF16", "coderFromArrayLen", "([BI)B"⟩ : MethodName) jdk_52_method_15_code 2 (some .byte) :: ws) ({ frames := 0, cells := 0, slots := 0, locals := 0 } : Room)) (fun a U => a = #[(.ref o0_), (.int (3 : Int32))] ∧ Z.Warmed39 U.vm ∧ U.heap = h0) (fun _ _ _ _ _ => True) (fun _ U o U' => ∃ v L, o = .returned v ∧ QcoderFromArrayLen35 Z o0_ ko0_ lo0_ h0 n0 v U'.heap L ∧ FrameEnd U o U' L ({ frames := 0, cells := 0, slots := 0, locals := 0 } : Room).cells ({ frames := 0, cells := 0, slots := 0, locals := 0 } : Room).slots) := by
  refine MetFree.of_bodySF (plainFor_of_name pn_0) hisR ?_
  intro p e s m args below meth c s₁ Bd hml0 hP hK
  obtain ⟨rfl, hZ, hh⟩ := hP
  have hx := Bd.exec
  have hby := Bd.bytes
  have hml : c.maxLocals = 2 := hml0
  have hown : s.vm.findClass "java/lang/StringUTF16" = some m.cls := findClass_of_methodNamed Bd.named
  have hnm := (name_of_methodNamed Bd.named Bd.method).1
  have X0 : Stand p l e ({ frames := 0, cells := 0, slots := 0, locals := 0 } : Room) s m #[(.ref o0_), (.int (3 : Int32))] below meth c s₁ [] 0 0 := Stand.of_body Bd
  have e0 : s₁.heap = h0 := by rw [← hh, Bd.state]; rfl
  have N0 := Fr.nil n0
  obtain ⟨G, pre0, hG⟩ : ∃ G : State → Prop, (∀ t, own_S p e below m s₁ 0 #[lvR o0_, lvI (3 : Int32)] [] t → G t) ∧ (∀ t, G t → Steps p.tables e below (s₁.setTop (entryFrame m #[(.ref o0_), (.int (3 : Int32))] 2)) t) := ⟨fun t => Steps p.tables e below (s₁.setTop (entryFrame m #[(.ref o0_), (.int (3 : Int32))] 2)) t, fun t k => castTop (efcoderFromArrayLen35 m o0_) k, fun _ k => k⟩
  have K0 : Keep h0 h0 [] := Keep.refl _ _
  obtain ⟨c1, r1, q1, s1, z1, y1, G1⟩ := id P1
  have pre2 : ∀ t, own_S p e below m s₁ 8 #[lvR o0_, lvI (3 : Int32)] [(.int (0 : Int32))] t → G t := by
    intro t kt
    refine pre0 t ?_
    show own_S p e below m s₁ 0 #[lvR o0_, lvI (3 : Int32)] [] _
    refine XS.iloadN X0.here hx rfl (hb hby d9_0) rfl ?_
    refine XS.aloadN X0.here hx rfl (hb hby d9_1) rfl rfl ?_
    show own_S p e below m s₁ 2 #[lvR o0_, lvI (3 : Int32)] [(.ref o0_), (.int (3 : Int32))] _
    refine X0.arraylength hx (by rw [e0]; exact r1.1) (State.isArrayOf_alike hZ.alike r1.2.1) (g := (mkF m 2 #[lvR o0_, lvI (3 : Int32)] [(.ref o0_), (.int (3 : Int32))])) rfl rfl (hb hby d9_2) _ ?_
    rw [len_of s1 z1]
    refine XS.isub X0.here hx rfl (hb hby d9_3) rfl ?_
    refine XS.bipush X0.here hx rfl (hb hby d9_4) ?_
    show own_S p e below m s₁ 6 #[lvR o0_, lvI (3 : Int32)] [(.int (31 : Int32)), (.int (0 : Int32))] _
    refine XS.iushr X0.here hx rfl (hb hby d9_6) rfl ?_
    show own_S p e below m s₁ 7 #[lvR o0_, lvI (3 : Int32)] [(.int (0 : Int32))] _
    refine XS.i2b X0.here hx rfl (hb hby d9_7) rfl ?_
    exact kt
  obtain ⟨fs, hr, hrun, hended, hW, hsame⟩ := X0.leave (v := some (.int (0 : Int32))) (fun h => by rw [Bd.returns] at h; cases h)
  refine ⟨_, _, hG _ (pre2 _ (retN X0 hx (t := .byte) Bd.returns (by simp) (hb hby d9_8) hr)), hrun, hended, _, _, rfl, ?_, ⟨_, rfl⟩, hW, hsame.mono (by decide) (by decide)⟩
  show QcoderFromArrayLen35 Z o0_ ko0_ lo0_ h0 n0 _ s₁.heap _
  rw [e0]
  exact ⟨rfl, N0, rfl⟩
theorem efcoderFromArrayLen36 (m : MethodId) (o0_ : Addr) : entryFrame m #[(.ref o0_), (.int (3 : Int32))] 2 = mkF m 0 #[lvR o0_, lvI (3 : Int32)] [] := by first | (simp [entryFrame, mkF, argsToLocals, Value.category]; done) | rfl
def QcoderFromArrayLen36 (Z : State) (o0_ : Addr) (ko0_ : ClassId) (lo0_ : List Value) (h0 : Heap) (n0 : Nat) (v : Option Value) (h : Heap) (L : List Loc) : Prop := v = some (.int (1 : Int32)) ∧ Fr n0 L ∧ h = h0
set_option maxRecDepth 65536 in
set_option maxHeartbeats 40000000 in
theorem rmcoderFromArrayLen36 (l : Launch) (Z : State) (a0 : Array Value) (hw : ∀ d ∈ tables_1, d.before a0 Z = true) (ws : List Jvm.Cond) (o0_ : Addr) (ko0_ : ClassId) (lo0_ : List Value) (h0 : Heap) (n0 : Nat) (O0 : Old Z n0 h0) (P0 : Exa Z h0 o0_ "[B") (P1 : Arv Z h0 o0_ ko0_ .byte (6 : Int32) lo0_ (.int (0 : Int32))) :
    MetFree l (⟨"java/lang/StringUTF16", "coderFromArrayLen", "([BI)B"⟩ : MethodName) (head1 (Jvm.Cond.code (⟨"java/lang/StringUTF16", "coderFromArrayLen", "([BI)B"⟩ : MethodName) jdk_52_method_15_code 2 (some .byte) :: ws) ({ frames := 0, cells := 0, slots := 0, locals := 0 } : Room)) (fun a U => a = #[(.ref o0_), (.int (3 : Int32))] ∧ Z.Warmed39 U.vm ∧ U.heap = h0) (fun _ _ _ _ _ => True) (fun _ U o U' => ∃ v L, o = .returned v ∧ QcoderFromArrayLen36 Z o0_ ko0_ lo0_ h0 n0 v U'.heap L ∧ FrameEnd U o U' L ({ frames := 0, cells := 0, slots := 0, locals := 0 } : Room).cells ({ frames := 0, cells := 0, slots := 0, locals := 0 } : Room).slots) := by
  refine MetFree.of_bodySF (plainFor_of_name pn_0) hisR ?_
  intro p e s m args below meth c s₁ Bd hml0 hP hK
  obtain ⟨rfl, hZ, hh⟩ := hP
  have hx := Bd.exec
  have hby := Bd.bytes
  have hml : c.maxLocals = 2 := hml0
  have hown : s.vm.findClass "java/lang/StringUTF16" = some m.cls := findClass_of_methodNamed Bd.named
  have hnm := (name_of_methodNamed Bd.named Bd.method).1
  have X0 : Stand p l e ({ frames := 0, cells := 0, slots := 0, locals := 0 } : Room) s m #[(.ref o0_), (.int (3 : Int32))] below meth c s₁ [] 0 0 := Stand.of_body Bd
  have e0 : s₁.heap = h0 := by rw [← hh, Bd.state]; rfl
  have N0 := Fr.nil n0
  obtain ⟨G, pre0, hG⟩ : ∃ G : State → Prop, (∀ t, own_S p e below m s₁ 0 #[lvR o0_, lvI (3 : Int32)] [] t → G t) ∧ (∀ t, G t → Steps p.tables e below (s₁.setTop (entryFrame m #[(.ref o0_), (.int (3 : Int32))] 2)) t) := ⟨fun t => Steps p.tables e below (s₁.setTop (entryFrame m #[(.ref o0_), (.int (3 : Int32))] 2)) t, fun t k => castTop (efcoderFromArrayLen36 m o0_) k, fun _ k => k⟩
  have K0 : Keep h0 h0 [] := Keep.refl _ _
  obtain ⟨c1, r1, q1, s1, z1, y1, G1⟩ := id P1
  have pre2 : ∀ t, own_S p e below m s₁ 8 #[lvR o0_, lvI (3 : Int32)] [(.int (1 : Int32))] t → G t := by
    intro t kt
    refine pre0 t ?_
    show own_S p e below m s₁ 0 #[lvR o0_, lvI (3 : Int32)] [] _
    refine XS.iloadN X0.here hx rfl (hb hby d9_0) rfl ?_
    refine XS.aloadN X0.here hx rfl (hb hby d9_1) rfl rfl ?_
    show own_S p e below m s₁ 2 #[lvR o0_, lvI (3 : Int32)] [(.ref o0_), (.int (3 : Int32))] _
    refine X0.arraylength hx (by rw [e0]; exact r1.1) (State.isArrayOf_alike hZ.alike r1.2.1) (g := (mkF m 2 #[lvR o0_, lvI (3 : Int32)] [(.ref o0_), (.int (3 : Int32))])) rfl rfl (hb hby d9_2) _ ?_
    rw [len_of s1 z1]
    refine XS.isub X0.here hx rfl (hb hby d9_3) rfl ?_
    refine XS.bipush X0.here hx rfl (hb hby d9_4) ?_
    show own_S p e below m s₁ 6 #[lvR o0_, lvI (3 : Int32)] [(.int (31 : Int32)), (.int (-3 : Int32))] _
    refine XS.iushr X0.here hx rfl (hb hby d9_6) rfl ?_
    show own_S p e below m s₁ 7 #[lvR o0_, lvI (3 : Int32)] [(.int (1 : Int32))] _
    refine XS.i2b X0.here hx rfl (hb hby d9_7) rfl ?_
    exact kt
  obtain ⟨fs, hr, hrun, hended, hW, hsame⟩ := X0.leave (v := some (.int (1 : Int32))) (fun h => by rw [Bd.returns] at h; cases h)
  refine ⟨_, _, hG _ (pre2 _ (retN X0 hx (t := .byte) Bd.returns (by simp) (hb hby d9_8) hr)), hrun, hended, _, _, rfl, ?_, ⟨_, rfl⟩, hW, hsame.mono (by decide) (by decide)⟩
  show QcoderFromArrayLen36 Z o0_ ko0_ lo0_ h0 n0 _ s₁.heap _
  rw [e0]
  exact ⟨rfl, N0, rfl⟩
theorem efIa3 (m : MethodId) (o_ : Addr) (sr_ : Addr) : entryFrame m #[(.ref o_), (.ref sr_), (.int (0 : Int32)), (.int (3 : Int32)), .null] 6 = mkF m 0 #[lvR o_, lvR sr_, lvI (0 : Int32), lvI (3 : Int32), .val .null, .unset] [] := by first | (simp [entryFrame, mkF, argsToLocals, Value.category]; done) | rfl
def QIa3 (Z : State) (o_ : Addr) (sr_ : Addr) (ks_ : ClassId) (x0_ : Int32) (x1_ : Int32) (x2_ : Int32) (u_coder_o_ : Int32) (u_value_o_ : Value) (w_COMPACT_STRINGS : Int32) (h0 : Heap) (n0 : Nat) (v : Option Value) (h : Heap) (L : List Loc) : Prop := ∃ k_w : ClassId, ∃ z_w : Int32, ∃ vs_w : List Value, ∃ nw_ : Addr, v = none ∧ Fr n0 L ∧ Keep h0 h [o_] ∧ h0.size ≤ nw_ ∧ Fld Z h o_ "java/lang/String" "value" "[B" (.ref nw_) ∧ Exa Z h nw_ "[B" ∧ Arv Z h nw_ k_w .byte z_w vs_w (.int (0 : Int32)) ∧ ¬ (z_w = (0 : Int32))
set_option maxRecDepth 65536 in
set_option maxHeartbeats 40000000 in
theorem rmIa3 (l : Launch) (Z : State) (a0 : Array Value) (hw : ∀ d ∈ tables_1, d.before a0 Z = true) (ws : List Jvm.Cond) (o_ : Addr) (sr_ : Addr) (ks_ : ClassId) (x0_ : Int32) (x1_ : Int32) (x2_ : Int32) (u_coder_o_ : Int32) (u_value_o_ : Value) (w_COMPACT_STRINGS : Int32) (h0 : Heap) (n0 : Nat) (O0 : Old Z n0 h0) (hc0_ : own_chr x0_) (hc1_ : own_chr x1_) (hc2_ : own_chr x2_) (hz_0 : ¬ (w_COMPACT_STRINGS = (0 : Int32))) (P4 : Exa Z h0 o_ "java/lang/String") (P5 : Fld Z h0 o_ "java/lang/String" "coder" "B" (.int u_coder_o_)) (P6 : Fld Z h0 o_ "java/lang/String" "value" "[B" u_value_o_) (P7 : Arv Z h0 sr_ ks_ .char (3 : Int32) [(.int x0_), (.int x1_), (.int x2_)] (.int (0 : Int32))) (P8 : Sta Z Z.heap "java/lang/String" "COMPACT_STRINGS" "Z" (.int w_COMPACT_STRINGS)) (P9 : Sta Z Z.heap "java/lang/StringUTF16" "$assertionsDisabled" "Z" (.int (1 : Int32))) (P10 : Sta Z Z.heap "java/lang/StringUTF16" "HI_BYTE_SHIFT" "I" (.int (0 : Int32))) (P11 : Sta Z Z.heap "java/lang/StringUTF16" "LO_BYTE_SHIFT" "I" (.int (8 : Int32))) (P12 : n0 ≤ o_) :
    MetFree l (⟨"java/lang/String", "<init>", "([CIILjava/lang/Void;)V"⟩ : MethodName) (head1 (Jvm.Cond.code (⟨"java/lang/String", "<init>", "([CIILjava/lang/Void;)V"⟩ : MethodName) jdk_42_method_149_code 6 none :: ws) ({ frames := 4, cells := 2, slots := 9, locals := 57 } : Room)) (fun a U => a = #[(.ref o_), (.ref sr_), (.int (0 : Int32)), (.int (3 : Int32)), .null] ∧ Z.Warmed39 U.vm ∧ U.heap = h0) (fun _ _ _ _ _ => True) (fun _ U o U' => ∃ v L, o = .returned v ∧ QIa3 Z o_ sr_ ks_ x0_ x1_ x2_ u_coder_o_ u_value_o_ w_COMPACT_STRINGS h0 n0 v U'.heap L ∧ FrameEnd U o U' L ({ frames := 4, cells := 2, slots := 9, locals := 57 } : Room).cells ({ frames := 4, cells := 2, slots := 9, locals := 57 } : Room).slots) := by
  refine MetFree.of_bodySF (plainFor_of_name pn_1) hisR ?_
  intro p e s m args below meth c s₁ Bd hml0 hP hK
  obtain ⟨rfl, hZ, hh⟩ := hP
  have hx := Bd.exec
  have hby := Bd.bytes
  have hml : c.maxLocals = 6 := hml0
  have hown : s.vm.findClass "java/lang/String" = some m.cls := findClass_of_methodNamed Bd.named
  have hnm := (name_of_methodNamed Bd.named Bd.method).1
  have X0 : Stand p l e ({ frames := 4, cells := 2, slots := 9, locals := 57 } : Room) s m #[(.ref o_), (.ref sr_), (.int (0 : Int32)), (.int (3 : Int32)), .null] below meth c s₁ [] 0 0 := Stand.of_body Bd
  have e0 : s₁.heap = h0 := by rw [← hh, Bd.state]; rfl
  have N0 := Fr.nil n0
  obtain ⟨G, pre0, hG⟩ : ∃ G : State → Prop, (∀ t, own_S p e below m s₁ 0 #[lvR o_, lvR sr_, lvI (0 : Int32), lvI (3 : Int32), .val .null, .unset] [] t → G t) ∧ (∀ t, G t → Steps p.tables e below (s₁.setTop (entryFrame m #[(.ref o_), (.ref sr_), (.int (0 : Int32)), (.int (3 : Int32)), .null] 6)) t) := ⟨fun t => Steps p.tables e below (s₁.setTop (entryFrame m #[(.ref o_), (.ref sr_), (.int (0 : Int32)), (.int (3 : Int32)), .null] 6)) t, fun t k => castTop (efIa3 m o_ sr_) k, fun _ k => k⟩
  have K0 : Keep h0 h0 [o_] := Keep.refl _ _
  obtain ⟨T1, X1, e1, st1⟩ := initO X0 hx hZ hown (own_w hw 11 rfl) (own_w hw 12 rfl) (own_w hw 13 rfl) e0 (g := (mkF m 1 #[lvR o_, lvR sr_, lvI (0 : Int32), lvI (3 : Int32), .val .null, .unset] [(.ref o_)])) rfl (by rw [hml]; rfl) rfl (hb hby d8_1) (by decide) (W := 0) (by show 2 * 0 + _ ≤ _; exact Nat.le_of_eq rfl) (by decide)
  obtain ⟨T2, X2, e2, st2⟩ := getS2 X1 hx hZ hown (host := "") (Or.inl (own_w hw 14 rfl)) Via.refl e1 (P8.ext O0.2) (g := (mkF m 27 #[lvR o_, lvR sr_, lvI (0 : Int32), lvI (3 : Int32), .val .null, .unset] [])) rfl (hb hby d8_27)
  obtain ⟨_, _, ⟨T3, L3, k3, n3⟩, -, X3, ⟨Lc3, hQ3, l3, y3, z3⟩, st3⟩ := Jvm.LawKit.callS X2 hx (y := (⟨"java/lang/StringUTF16", "compress", "([CII)[B"⟩ : MethodName)) hown (mvT hZ (own_w hw 15 rfl)) (mvT hZ (own_w hw 16 rfl)) (mvT hZ (own_w hw 17 rfl)) (mvT hZ (own_w hw 18 rfl)) (by decide) (backOf (W := 0) (rmCq3 l Z a0 hw [] sr_ ks_ x0_ x1_ x2_ w_COMPACT_STRINGS h0 n0 O0 hc0_ hc1_ hc2_ hz_0 P7 P8 P9 P10 P11) hZ (own_w hw 18 rfl) (own_w hw 17 rfl) (by decide) (by decide)) (g := (mkF m 36 #[lvR o_, lvR sr_, lvI (0 : Int32), lvI (3 : Int32), .val .null, .unset] [(.int (3 : Int32)), (.int (0 : Int32)), (.ref sr_)])) rfl (by rw [hml]; rfl) (argsL := [(.ref sr_), (.int (0 : Int32)), (.int (3 : Int32))]) (rest := []) (lenOf pd_4 rfl) rfl (by show 2 * 0 + _ ≤ _; exact Nat.le_of_eq rfl) (hb hby d8_36) (fun _ _ => ⟨rfl, e2, (by decide : 0 + 2 ≤ _), (by decide : 0 + 9 ≤ _)⟩)
  dsimp only [Pt.U, Pt.locs, Pt.cells, Pt.slots] at X3 l3 y3 z3 st3 hQ3
  subst l3 y3 z3
  obtain ⟨h3, e3⟩ : ∃ z, T3.heap = z := ⟨_, rfl⟩
  rw [e3] at hQ3
  obtain ⟨k_w_3, z_w_3, vs_w_3, nw__3, rfl, N3q, K3, sznw__3, g3_0, g3_1, qx3_0⟩ := hQ3
  have N4 := Fr.app N0 N3q
  have ge5 : n0 ≤ nw__3 := Nat.le_trans (Nat.le_trans (Nat.le_of_eq O0.1.symm) O0.2.1) sznw__3
  have sz6 : h0.size ≤ nw__3 := Nat.le_trans K0.1 sznw__3
  have pre7 : ∀ t, own_S p e below m T3 41 #[lvR o_, lvR sr_, lvI (0 : Int32), lvI (3 : Int32), .val .null, lvR nw__3] [] t → G t := by
    intro t kt
    refine pre0 t ?_
    show own_S p e below m s₁ 0 #[lvR o_, lvR sr_, lvI (0 : Int32), lvI (3 : Int32), .val .null, .unset] [] _
    refine XS.aloadN X0.here hx rfl (hb hby d8_0) rfl rfl ?_
    show own_S p e below m s₁ 1 #[lvR o_, lvR sr_, lvI (0 : Int32), lvI (3 : Int32), .val .null, .unset] [(.ref o_)] _
    refine st1 _ ?_
    refine XS.iloadN X1.here hx rfl (hb hby d8_4) rfl ?_
    show own_S p e below m T1 5 #[lvR o_, lvR sr_, lvI (0 : Int32), lvI (3 : Int32), .val .null, .unset] [(.int (3 : Int32))] _
    refine XS.ifYes X1.here hx rfl (pc0 := 5) (pc' := 27) rfl (hb hby d8_5) rfl ((if0 _ _).trans (feq (by decide : ¬ ((3 : Int32) = (0 : Int32)))).2) (by decide) (by decide) ?_
    show own_S p e below m T1 27 #[lvR o_, lvR sr_, lvI (0 : Int32), lvI (3 : Int32), .val .null, .unset] [] _
    refine st2 _ ?_
    show own_S p e below m T2 30 #[lvR o_, lvR sr_, lvI (0 : Int32), lvI (3 : Int32), .val .null, .unset] [(.int w_COMPACT_STRINGS)] _
    refine XS.ifNo X2.here hx rfl (hb hby d8_30) rfl ((if0 _ _).trans (feq hz_0).1) ?_
    refine XS.aloadN X2.here hx rfl (hb hby d8_33) rfl rfl ?_
    refine XS.iloadN X2.here hx rfl (hb hby d8_34) rfl ?_
    refine XS.iloadN X2.here hx rfl (hb hby d8_35) rfl ?_
    show own_S p e below m T2 36 #[lvR o_, lvR sr_, lvI (0 : Int32), lvI (3 : Int32), .val .null, .unset] [(.int (3 : Int32)), (.int (0 : Int32)), (.ref sr_)] _
    refine st3 _ ?_
    refine XS.astore X3.here hx rfl (hb hby d8_39) rfl rfl (l' := #[lvR o_, lvR sr_, lvI (0 : Int32), lvI (3 : Int32), .val .null, lvR nw__3]) rfl ?_
    exact kt
  rcases qx3_0 with hz8 | hz8
  · have f9 : Arv Z h3 nw__3 k_w_3 .byte (3 : Int32) vs_w_3 (.int (0 : Int32)) := by have q := g3_1; rw [hz8] at q; exact q
    have f11 : Old Z n0 h3 := O0.keep K3 all0
    obtain ⟨_, _, ⟨T10, L10, k10, n10⟩, -, X10, ⟨Lc10, hQ10, l10, y10, z10⟩, st10⟩ := Jvm.LawKit.callS X3 hx (y := (⟨"java/lang/StringUTF16", "coderFromArrayLen", "([BI)B"⟩ : MethodName)) hown (mvT hZ (own_w hw 23 rfl)) (mvT hZ (own_w hw 24 rfl)) (mvT hZ (own_w hw 17 rfl)) (mvT hZ (own_w hw 25 rfl)) (by decide) (backOf (W := 1) (rmcoderFromArrayLen35 l Z a0 hw [] nw__3 k_w_3 vs_w_3 h3 n0 f11 g3_0 f9) hZ (own_w hw 25 rfl) (own_w hw 17 rfl) (by decide) (by decide)) (g := (mkF m 45 #[lvR o_, lvR sr_, lvI (0 : Int32), lvI (3 : Int32), .val .null, lvR nw__3] [(.int (3 : Int32)), (.ref nw__3), (.ref o_)])) rfl (by rw [hml]; rfl) (argsL := [(.ref nw__3), (.int (3 : Int32))]) (rest := [(.ref o_)]) (lenOf pd_6 rfl) rfl (by show 2 * 0 + _ ≤ _; exact Nat.le_of_eq rfl) (hb hby d8_45) (fun _ _ => ⟨rfl, e3, (by decide : 2 + 0 ≤ _), (by decide : 9 + 0 ≤ _)⟩)
    dsimp only [Pt.U, Pt.locs, Pt.cells, Pt.slots] at X10 l10 y10 z10 st10 hQ10
    subst l10 y10 z10
    obtain ⟨h10, e10⟩ : ∃ z, T10.heap = z := ⟨_, rfl⟩
    rw [e10] at hQ10
    obtain ⟨rfl, N10q, hh10⟩ := hQ10
    have N12 := Fr.app N4 N10q
    have e10' : T10.heap = h3 := e10.trans hh10
    have f13 : Fld Z h3 o_ "java/lang/String" "coder" "B" (.int u_coder_o_) := P5.keep K3 nin0
    have f14 : Exa Z h3 o_ "java/lang/String" := P4.keep K3
    obtain ⟨T15, h15, X15, e15, W15, st15⟩ := putF X10 hx hZ hown (host := "") (Or.inl (own_w hw 26 rfl)) Via.refl e10' f13 f14 (Or.inr ⟨(own_w hw 27 rfl), rfl, hnm⟩) (own_w hw 1 rfl) (ty := .byte) (by decide) rfl rfl (g := (mkF m 48 #[lvR o_, lvR sr_, lvI (0 : Int32), lvI (3 : Int32), .val .null, lvR nw__3] [(.int (0 : Int32)), (.ref o_)])) rfl rfl (hb hby d8_48)
    have N16 := Fr.snoc X15 N12 P12
    have f17 : Fld Z h15 o_ "java/lang/String" "coder" "B" (.int (0 : Int32)) := f13.same W15
    have f18 : Fld Z h3 o_ "java/lang/String" "value" "[B" u_value_o_ := P6.keep K3 nin0
    have f19 : Fld Z h15 o_ "java/lang/String" "value" "[B" u_value_o_ := f18.other W15 (Or.inr (slot_ne (Or.inr (own_w hw 29 rfl)) (Or.inr (own_w hw 27 rfl)) (by decide) (t := (.array .byte)) (t' := .byte) (by decide) (by decide)))
    have f20 : Exa Z h15 o_ "java/lang/String" := f14.wr W15
    obtain ⟨T21, h21, X21, e21, W21, st21⟩ := putF X15 hx hZ hown (host := "") (Or.inl (own_w hw 28 rfl)) Via.refl e15 f19 f20 (Or.inr ⟨(own_w hw 29 rfl), rfl, hnm⟩) (own_w hw 1 rfl) (ty := (.array .byte)) (by decide) rfl rfl (g := (mkF m 54 #[lvR o_, lvR sr_, lvI (0 : Int32), lvI (3 : Int32), .val .null, lvR nw__3] [(.ref nw__3), (.ref o_)])) rfl rfl (hb hby d8_54)
    have N22 := Fr.snoc X21 N16 P12
    have f23 : Fld Z h21 o_ "java/lang/String" "value" "[B" (.ref nw__3) := f19.same W21
    have pre24 : ∀ t, own_S p e below m T21 57 #[lvR o_, lvR sr_, lvI (0 : Int32), lvI (3 : Int32), .val .null, lvR nw__3] [] t → G t := by
      intro t kt
      refine pre7 t ?_
      show own_S p e below m T3 41 #[lvR o_, lvR sr_, lvI (0 : Int32), lvI (3 : Int32), .val .null, lvR nw__3] [] _
      refine XS.aloadN X3.here hx rfl (hb hby d8_41) rfl rfl ?_
      refine XS.aload X3.here hx rfl (hb hby d8_42) rfl rfl ?_
      refine XS.iloadN X3.here hx rfl (hb hby d8_44) rfl ?_
      show own_S p e below m T3 45 #[lvR o_, lvR sr_, lvI (0 : Int32), lvI (3 : Int32), .val .null, lvR nw__3] [(.int (3 : Int32)), (.ref nw__3), (.ref o_)] _
      refine st10 _ ?_
      show own_S p e below m T10 48 #[lvR o_, lvR sr_, lvI (0 : Int32), lvI (3 : Int32), .val .null, lvR nw__3] [(.int (0 : Int32)), (.ref o_)] _
      refine st15 _ ?_
      refine XS.aloadN X15.here hx rfl (hb hby d8_51) rfl rfl ?_
      refine XS.aload X15.here hx rfl (hb hby d8_52) rfl rfl ?_
      show own_S p e below m T15 54 #[lvR o_, lvR sr_, lvI (0 : Int32), lvI (3 : Int32), .val .null, lvR nw__3] [(.ref nw__3), (.ref o_)] _
      refine st21 _ ?_
      exact kt
    have f26 : Exa Z h15 nw__3 "[B" := g3_0.wr W15
    have f27 : Exa Z h21 nw__3 "[B" := f26.wr W21
    have ne29 : o_ ≠ nw__3 := Nat.ne_of_lt (Nat.lt_of_lt_of_le P4.lt sznw__3)
    have f28 : Arv Z h15 nw__3 k_w_3 .byte (3 : Int32) vs_w_3 (.int (0 : Int32)) := f9.other W15 (Ne.symm ne29)
    have f30 : Arv Z h21 nw__3 k_w_3 .byte (3 : Int32) vs_w_3 (.int (0 : Int32)) := f28.other W21 (Ne.symm ne29)
    have f31 : Keep h0 h3 [o_] := K0.trans K3 all0
    have f32 : Keep h0 h15 [o_] := f31.wr W15 (Or.inl (List.mem_of_getElem? (i := 0) rfl))
    have f33 : Keep h0 h21 [o_] := f32.wr W21 (Or.inl (List.mem_of_getElem? (i := 0) rfl))
    obtain ⟨fs, hr, hrun, hended, hW, hsame⟩ := X21.leave (v := none) (fun _ => rfl)
    refine ⟨_, _, hG _ (pre24 _ (X21.returnOut hx Bd.returns (hb hby d8_57) hr)), hrun, hended, _, _, rfl, ?_, ⟨_, rfl⟩, hW, hsame.mono (by decide) (by decide)⟩
    show QIa3 Z o_ sr_ ks_ x0_ x1_ x2_ u_coder_o_ u_value_o_ w_COMPACT_STRINGS h0 n0 _ T21.heap _
    rw [e21]
    exact ⟨k_w_3, (3 : Int32), vs_w_3, nw__3, rfl, N22, f33, sz6, f23, f27, f30, (by decide)⟩
  · have f34 : Arv Z h3 nw__3 k_w_3 .byte (6 : Int32) vs_w_3 (.int (0 : Int32)) := by have q := g3_1; rw [hz8] at q; exact q
    have f36 : Old Z n0 h3 := O0.keep K3 all0
    obtain ⟨_, _, ⟨T35, L35, k35, n35⟩, -, X35, ⟨Lc35, hQ35, l35, y35, z35⟩, st35⟩ := Jvm.LawKit.callS X3 hx (y := (⟨"java/lang/StringUTF16", "coderFromArrayLen", "([BI)B"⟩ : MethodName)) hown (mvT hZ (own_w hw 23 rfl)) (mvT hZ (own_w hw 24 rfl)) (mvT hZ (own_w hw 17 rfl)) (mvT hZ (own_w hw 25 rfl)) (by decide) (backOf (W := 1) (rmcoderFromArrayLen36 l Z a0 hw [] nw__3 k_w_3 vs_w_3 h3 n0 f36 g3_0 f34) hZ (own_w hw 25 rfl) (own_w hw 17 rfl) (by decide) (by decide)) (g := (mkF m 45 #[lvR o_, lvR sr_, lvI (0 : Int32), lvI (3 : Int32), .val .null, lvR nw__3] [(.int (3 : Int32)), (.ref nw__3), (.ref o_)])) rfl (by rw [hml]; rfl) (argsL := [(.ref nw__3), (.int (3 : Int32))]) (rest := [(.ref o_)]) (lenOf pd_6 rfl) rfl (by show 2 * 0 + _ ≤ _; exact Nat.le_of_eq rfl) (hb hby d8_45) (fun _ _ => ⟨rfl, e3, (by decide : 2 + 0 ≤ _), (by decide : 9 + 0 ≤ _)⟩)
    dsimp only [Pt.U, Pt.locs, Pt.cells, Pt.slots] at X35 l35 y35 z35 st35 hQ35
    subst l35 y35 z35
    obtain ⟨h35, e35⟩ : ∃ z, T35.heap = z := ⟨_, rfl⟩
    rw [e35] at hQ35
    obtain ⟨rfl, N35q, hh35⟩ := hQ35
    have N37 := Fr.app N4 N35q
    have e35' : T35.heap = h3 := e35.trans hh35
    have f38 : Fld Z h3 o_ "java/lang/String" "coder" "B" (.int u_coder_o_) := P5.keep K3 nin0
    have f39 : Exa Z h3 o_ "java/lang/String" := P4.keep K3
    obtain ⟨T40, h40, X40, e40, W40, st40⟩ := putF X35 hx hZ hown (host := "") (Or.inl (own_w hw 26 rfl)) Via.refl e35' f38 f39 (Or.inr ⟨(own_w hw 27 rfl), rfl, hnm⟩) (own_w hw 1 rfl) (ty := .byte) (by decide) rfl rfl (g := (mkF m 48 #[lvR o_, lvR sr_, lvI (0 : Int32), lvI (3 : Int32), .val .null, lvR nw__3] [(.int (1 : Int32)), (.ref o_)])) rfl rfl (hb hby d8_48)
    have N41 := Fr.snoc X40 N37 P12
    have f42 : Fld Z h40 o_ "java/lang/String" "coder" "B" (.int (1 : Int32)) := f38.same W40
    have f43 : Fld Z h3 o_ "java/lang/String" "value" "[B" u_value_o_ := P6.keep K3 nin0
    have f44 : Fld Z h40 o_ "java/lang/String" "value" "[B" u_value_o_ := f43.other W40 (Or.inr (slot_ne (Or.inr (own_w hw 29 rfl)) (Or.inr (own_w hw 27 rfl)) (by decide) (t := (.array .byte)) (t' := .byte) (by decide) (by decide)))
    have f45 : Exa Z h40 o_ "java/lang/String" := f39.wr W40
    obtain ⟨T46, h46, X46, e46, W46, st46⟩ := putF X40 hx hZ hown (host := "") (Or.inl (own_w hw 28 rfl)) Via.refl e40 f44 f45 (Or.inr ⟨(own_w hw 29 rfl), rfl, hnm⟩) (own_w hw 1 rfl) (ty := (.array .byte)) (by decide) rfl rfl (g := (mkF m 54 #[lvR o_, lvR sr_, lvI (0 : Int32), lvI (3 : Int32), .val .null, lvR nw__3] [(.ref nw__3), (.ref o_)])) rfl rfl (hb hby d8_54)
    have N47 := Fr.snoc X46 N41 P12
    have f48 : Fld Z h46 o_ "java/lang/String" "value" "[B" (.ref nw__3) := f44.same W46
    have pre49 : ∀ t, own_S p e below m T46 57 #[lvR o_, lvR sr_, lvI (0 : Int32), lvI (3 : Int32), .val .null, lvR nw__3] [] t → G t := by
      intro t kt
      refine pre7 t ?_
      show own_S p e below m T3 41 #[lvR o_, lvR sr_, lvI (0 : Int32), lvI (3 : Int32), .val .null, lvR nw__3] [] _
      refine XS.aloadN X3.here hx rfl (hb hby d8_41) rfl rfl ?_
      refine XS.aload X3.here hx rfl (hb hby d8_42) rfl rfl ?_
      refine XS.iloadN X3.here hx rfl (hb hby d8_44) rfl ?_
      show own_S p e below m T3 45 #[lvR o_, lvR sr_, lvI (0 : Int32), lvI (3 : Int32), .val .null, lvR nw__3] [(.int (3 : Int32)), (.ref nw__3), (.ref o_)] _
      refine st35 _ ?_
      show own_S p e below m T35 48 #[lvR o_, lvR sr_, lvI (0 : Int32), lvI (3 : Int32), .val .null, lvR nw__3] [(.int (1 : Int32)), (.ref o_)] _
      refine st40 _ ?_
      refine XS.aloadN X40.here hx rfl (hb hby d8_51) rfl rfl ?_
      refine XS.aload X40.here hx rfl (hb hby d8_52) rfl rfl ?_
      show own_S p e below m T40 54 #[lvR o_, lvR sr_, lvI (0 : Int32), lvI (3 : Int32), .val .null, lvR nw__3] [(.ref nw__3), (.ref o_)] _
      refine st46 _ ?_
      exact kt
    have f51 : Exa Z h40 nw__3 "[B" := g3_0.wr W40
    have f52 : Exa Z h46 nw__3 "[B" := f51.wr W46
    have ne54 : o_ ≠ nw__3 := Nat.ne_of_lt (Nat.lt_of_lt_of_le P4.lt sznw__3)
    have f53 : Arv Z h40 nw__3 k_w_3 .byte (6 : Int32) vs_w_3 (.int (0 : Int32)) := f34.other W40 (Ne.symm ne54)
    have f55 : Arv Z h46 nw__3 k_w_3 .byte (6 : Int32) vs_w_3 (.int (0 : Int32)) := f53.other W46 (Ne.symm ne54)
    have f56 : Keep h0 h3 [o_] := K0.trans K3 all0
    have f57 : Keep h0 h40 [o_] := f56.wr W40 (Or.inl (List.mem_of_getElem? (i := 0) rfl))
    have f58 : Keep h0 h46 [o_] := f57.wr W46 (Or.inl (List.mem_of_getElem? (i := 0) rfl))
    obtain ⟨fs, hr, hrun, hended, hW, hsame⟩ := X46.leave (v := none) (fun _ => rfl)
    refine ⟨_, _, hG _ (pre49 _ (X46.returnOut hx Bd.returns (hb hby d8_57) hr)), hrun, hended, _, _, rfl, ?_, ⟨_, rfl⟩, hW, hsame.mono (by decide) (by decide)⟩
    show QIa3 Z o_ sr_ ks_ x0_ x1_ x2_ u_coder_o_ u_value_o_ w_COMPACT_STRINGS h0 n0 _ T46.heap _
    rw [e46]
    exact ⟨k_w_3, (6 : Int32), vs_w_3, nw__3, rfl, N47, f58, sz6, f48, f52, f55, (by decide)⟩
theorem efIb3 (m : MethodId) (o_ : Addr) (sr_ : Addr) : entryFrame m #[(.ref o_), (.ref sr_)] 2 = mkF m 0 #[lvR o_, lvR sr_] [] := by first | (simp [entryFrame, mkF, argsToLocals, Value.category]; done) | rfl
def QIb3 (Z : State) (o_ : Addr) (sr_ : Addr) (ks_ : ClassId) (x0_ : Int32) (x1_ : Int32) (x2_ : Int32) (u_coder_o_ : Int32) (u_value_o_ : Value) (w_COMPACT_STRINGS : Int32) (h0 : Heap) (n0 : Nat) (v : Option Value) (h : Heap) (L : List Loc) : Prop := ∃ k_w : ClassId, ∃ z_w : Int32, ∃ vs_w : List Value, ∃ nw_ : Addr, v = none ∧ Fr n0 L ∧ Keep h0 h [o_] ∧ h0.size ≤ nw_ ∧ Fld Z h o_ "java/lang/String" "value" "[B" (.ref nw_) ∧ Exa Z h nw_ "[B" ∧ Arv Z h nw_ k_w .byte z_w vs_w (.int (0 : Int32)) ∧ ¬ (z_w = (0 : Int32))
set_option maxRecDepth 65536 in
set_option maxHeartbeats 40000000 in
theorem rmIb3 (l : Launch) (Z : State) (a0 : Array Value) (hw : ∀ d ∈ tables_1, d.before a0 Z = true) (ws : List Jvm.Cond) (o_ : Addr) (sr_ : Addr) (ks_ : ClassId) (x0_ : Int32) (x1_ : Int32) (x2_ : Int32) (u_coder_o_ : Int32) (u_value_o_ : Value) (w_COMPACT_STRINGS : Int32) (h0 : Heap) (n0 : Nat) (O0 : Old Z n0 h0) (hc0_ : own_chr x0_) (hc1_ : own_chr x1_) (hc2_ : own_chr x2_) (hz_0 : ¬ (w_COMPACT_STRINGS = (0 : Int32))) (P4 : Exa Z h0 o_ "java/lang/String") (P5 : Fld Z h0 o_ "java/lang/String" "coder" "B" (.int u_coder_o_)) (P6 : Fld Z h0 o_ "java/lang/String" "value" "[B" u_value_o_) (P7 : Arv Z h0 sr_ ks_ .char (3 : Int32) [(.int x0_), (.int x1_), (.int x2_)] (.int (0 : Int32))) (P8 : Sta Z Z.heap "java/lang/String" "COMPACT_STRINGS" "Z" (.int w_COMPACT_STRINGS)) (P9 : Sta Z Z.heap "java/lang/StringUTF16" "$assertionsDisabled" "Z" (.int (1 : Int32))) (P10 : Sta Z Z.heap "java/lang/StringUTF16" "HI_BYTE_SHIFT" "I" (.int (0 : Int32))) (P11 : Sta Z Z.heap "java/lang/StringUTF16" "LO_BYTE_SHIFT" "I" (.int (8 : Int32))) (P12 : n0 ≤ o_) :
    MetFree l (⟨"java/lang/String", "<init>", "([C)V"⟩ : MethodName) (head1 (Jvm.Cond.code (⟨"java/lang/String", "<init>", "([C)V"⟩ : MethodName) jdk_42_method_3_code 2 none :: ws) ({ frames := 5, cells := 2, slots := 9, locals := 74 } : Room)) (fun a U => a = #[(.ref o_), (.ref sr_)] ∧ Z.Warmed39 U.vm ∧ U.heap = h0) (fun _ _ _ _ _ => True) (fun _ U o U' => ∃ v L, o = .returned v ∧ QIb3 Z o_ sr_ ks_ x0_ x1_ x2_ u_coder_o_ u_value_o_ w_COMPACT_STRINGS h0 n0 v U'.heap L ∧ FrameEnd U o U' L ({ frames := 5, cells := 2, slots := 9, locals := 74 } : Room).cells ({ frames := 5, cells := 2, slots := 9, locals := 74 } : Room).slots) := by
  refine MetFree.of_bodySF (plainFor_of_name pn_1) hisR ?_
  intro p e s m args below meth c s₁ Bd hml0 hP hK
  obtain ⟨rfl, hZ, hh⟩ := hP
  have hx := Bd.exec
  have hby := Bd.bytes
  have hml : c.maxLocals = 2 := hml0
  have hown : s.vm.findClass "java/lang/String" = some m.cls := findClass_of_methodNamed Bd.named
  have hnm := (name_of_methodNamed Bd.named Bd.method).1
  have X0 : Stand p l e ({ frames := 5, cells := 2, slots := 9, locals := 74 } : Room) s m #[(.ref o_), (.ref sr_)] below meth c s₁ [] 0 0 := Stand.of_body Bd
  have e0 : s₁.heap = h0 := by rw [← hh, Bd.state]; rfl
  have N0 := Fr.nil n0
  obtain ⟨G, pre0, hG⟩ : ∃ G : State → Prop, (∀ t, own_S p e below m s₁ 0 #[lvR o_, lvR sr_] [] t → G t) ∧ (∀ t, G t → Steps p.tables e below (s₁.setTop (entryFrame m #[(.ref o_), (.ref sr_)] 2)) t) := ⟨fun t => Steps p.tables e below (s₁.setTop (entryFrame m #[(.ref o_), (.ref sr_)] 2)) t, fun t k => castTop (efIb3 m o_ sr_) k, fun _ k => k⟩
  have K0 : Keep h0 h0 [o_] := Keep.refl _ _
  obtain ⟨c1, r1, q1, s1, z1, y1, G1⟩ := id P7
  obtain ⟨_, _, ⟨T2, L2, k2, n2⟩, -, X2, ⟨Lc2, hQ2, l2, y2, z2⟩, st2⟩ := X0.specialBack hx (y := (⟨"java/lang/String", "<init>", "([CIILjava/lang/Void;)V"⟩ : MethodName)) rfl hown (mvT hZ (own_w hw 7 rfl)) (mvT hZ (own_w hw 8 rfl)) (mvT hZ (own_w hw 10 rfl)) (by decide) (backOf (W := 0) (rmIa3 l Z a0 hw [] o_ sr_ ks_ x0_ x1_ x2_ u_coder_o_ u_value_o_ w_COMPACT_STRINGS h0 n0 O0 hc0_ hc1_ hc2_ hz_0 P4 P5 P6 P7 P8 P9 P10 P11 P12) hZ (own_w hw 10 rfl) (own_w hw 2 rfl) (by decide) (by decide)) (g := (mkF m 6 #[lvR o_, lvR sr_] [.null, (.int (3 : Int32)), (.int (0 : Int32)), (.ref sr_), (.ref o_)])) rfl (by rw [hml]; rfl) (Steps.refl _) (a := o_) (argsL := [(.ref sr_), (.int (0 : Int32)), (.int (3 : Int32)), .null]) (rest := []) (lenOf pd_7 rfl) rfl (by show 2 * 0 + _ ≤ _; exact Nat.le_of_eq rfl) (hb hby d10_6) (fun _ _ => ⟨rfl, e0, (by decide : 0 + 2 ≤ _), (by decide : 0 + 9 ≤ _)⟩)
  dsimp only [Pt.U, Pt.locs, Pt.cells, Pt.slots] at X2 l2 y2 z2 st2 hQ2
  subst l2 y2 z2
  obtain ⟨h2, e2⟩ : ∃ z, T2.heap = z := ⟨_, rfl⟩
  rw [e2] at hQ2
  obtain ⟨k_w_2, z_w_2, vs_w_2, nw__2, rfl, N2q, K2, sznw__2, g2_0, g2_1, g2_2, qx2_0⟩ := hQ2
  have N3 := Fr.app N0 N2q
  have ge4 : n0 ≤ nw__2 := Nat.le_trans (Nat.le_trans (Nat.le_of_eq O0.1.symm) O0.2.1) sznw__2
  have sz5 : h0.size ≤ nw__2 := Nat.le_trans K0.1 sznw__2
  have pre6 : ∀ t, own_S p e below m T2 9 #[lvR o_, lvR sr_] [] t → G t := by
    intro t kt
    refine pre0 t ?_
    show own_S p e below m s₁ 0 #[lvR o_, lvR sr_] [] _
    refine XS.aloadN X0.here hx rfl (hb hby d10_0) rfl rfl ?_
    refine XS.aloadN X0.here hx rfl (hb hby d10_1) rfl rfl ?_
    refine XS.iconst X0.here hx rfl (hb hby d10_2) ?_
    refine XS.aloadN X0.here hx rfl (hb hby d10_3) rfl rfl ?_
    show own_S p e below m s₁ 4 #[lvR o_, lvR sr_] [(.ref sr_), (.int (0 : Int32)), (.ref sr_), (.ref o_)] _
    refine X0.arraylength hx (by rw [e0]; exact r1.1) (State.isArrayOf_alike hZ.alike r1.2.1) (g := (mkF m 4 #[lvR o_, lvR sr_] [(.ref sr_), (.int (0 : Int32)), (.ref sr_), (.ref o_)])) rfl rfl (hb hby d10_4) _ ?_
    rw [len_of s1 z1]
    refine XS.aconstNull X0.here hx rfl (hb hby d10_5) ?_
    show own_S p e below m s₁ 6 #[lvR o_, lvR sr_] [.null, (.int (3 : Int32)), (.int (0 : Int32)), (.ref sr_), (.ref o_)] _
    refine st2.trans ?_
    exact kt
  have f8 : Keep h0 h2 [o_] := K0.trans K2 (allS (Or.inl (List.mem_of_getElem? (i := 0) rfl)) all0)
  obtain ⟨fs, hr, hrun, hended, hW, hsame⟩ := X2.leave (v := none) (fun _ => rfl)
  refine ⟨_, _, hG _ (pre6 _ (X2.returnOut hx Bd.returns (hb hby d10_9) hr)), hrun, hended, _, _, rfl, ?_, ⟨_, rfl⟩, hW, hsame.mono (by decide) (by decide)⟩
  show QIb3 Z o_ sr_ ks_ x0_ x1_ x2_ u_coder_o_ u_value_o_ w_COMPACT_STRINGS h0 n0 _ T2.heap _
  rw [e2]
  exact ⟨k_w_2, z_w_2, vs_w_2, nw__2, rfl, N3, f8, sz5, g2_0, g2_1, g2_2, qx2_0⟩
theorem efCp4 (m : MethodId) (sr_ : Addr) (ds_ : Addr) : entryFrame m #[(.ref sr_), (.int (0 : Int32)), (.ref ds_), (.int (0 : Int32)), (.int (4 : Int32))] 7 = mkF m 0 #[lvR sr_, lvI (0 : Int32), lvR ds_, lvI (0 : Int32), lvI (4 : Int32), .unset, .unset] [] := by first | (simp [entryFrame, mkF, argsToLocals, Value.category]; done) | rfl
def QCp4 (Z : State) (sr_ : Addr) (ks_ : ClassId) (ds_ : Addr) (kd_ : ClassId) (x0_ : Int32) (x1_ : Int32) (x2_ : Int32) (x3_ : Int32) (h0 : Heap) (n0 : Nat) (v : Option Value) (h : Heap) (L : List Loc) : Prop := ∃ vs_w : List Value, ∃ r_ : Int32, v = some (.int r_) ∧ (((0 : Int32) = r_ ∧ ((255 : Int32) < x0_)) ∨ ((1 : Int32) = r_ ∧ (¬ ((255 : Int32) < x0_)) ∧ ((255 : Int32) < x1_)) ∨ ((2 : Int32) = r_ ∧ (¬ ((255 : Int32) < x0_)) ∧ (¬ ((255 : Int32) < x1_)) ∧ ((255 : Int32) < x2_)) ∨ ((3 : Int32) = r_ ∧ (¬ ((255 : Int32) < x0_)) ∧ (¬ ((255 : Int32) < x1_)) ∧ (¬ ((255 : Int32) < x2_)) ∧ ((255 : Int32) < x3_)) ∨ ((4 : Int32) = r_ ∧ (¬ ((255 : Int32) < x0_)) ∧ (¬ ((255 : Int32) < x1_)) ∧ (¬ ((255 : Int32) < x2_)) ∧ (¬ ((255 : Int32) < x3_)))) ∧ Fr n0 L ∧ Keep h0 h [ds_] ∧ Arv Z h ds_ kd_ .byte (4 : Int32) vs_w (.int (0 : Int32))
set_option maxRecDepth 65536 in
set_option maxHeartbeats 40000000 in
theorem rmCp4 (l : Launch) (Z : State) (a0 : Array Value) (hw : ∀ d ∈ tables_1, d.before a0 Z = true) (ws : List Jvm.Cond) (sr_ : Addr) (ks_ : ClassId) (ds_ : Addr) (kd_ : ClassId) (x0_ : Int32) (x1_ : Int32) (x2_ : Int32) (x3_ : Int32) (h0 : Heap) (n0 : Nat) (O0 : Old Z n0 h0) (P0 : Arv Z h0 sr_ ks_ .char (4 : Int32) [(.int x0_), (.int x1_), (.int x2_), (.int x3_)] (.int (0 : Int32))) (P1 : Arv Z h0 ds_ kd_ .byte (4 : Int32) [(.int (0 : Int32)), (.int (0 : Int32)), (.int (0 : Int32)), (.int (0 : Int32))] (.int (0 : Int32))) (P2 : n0 ≤ ds_) (P3 : sr_ ≠ ds_) :
    MetFree l (⟨"java/lang/StringUTF16", "compress", "([CI[BII)I"⟩ : MethodName) (head1 (Jvm.Cond.code (⟨"java/lang/StringUTF16", "compress", "([CI[BII)I"⟩ : MethodName) jdk_52_method_21_code 7 (some .int) :: ws) ({ frames := 0, cells := 0, slots := 0, locals := 0 } : Room)) (fun a U => a = #[(.ref sr_), (.int (0 : Int32)), (.ref ds_), (.int (0 : Int32)), (.int (4 : Int32))] ∧ Z.Warmed39 U.vm ∧ U.heap = h0) (fun _ _ _ _ _ => True) (fun _ U o U' => ∃ v L, o = .returned v ∧ QCp4 Z sr_ ks_ ds_ kd_ x0_ x1_ x2_ x3_ h0 n0 v U'.heap L ∧ FrameEnd U o U' L ({ frames := 0, cells := 0, slots := 0, locals := 0 } : Room).cells ({ frames := 0, cells := 0, slots := 0, locals := 0 } : Room).slots) := by
  refine MetFree.of_bodySF (plainFor_of_name pn_0) hisR ?_
  intro p e s m args below meth c s₁ Bd hml0 hP hK
  obtain ⟨rfl, hZ, hh⟩ := hP
  have hx := Bd.exec
  have hby := Bd.bytes
  have hml : c.maxLocals = 7 := hml0
  have hown : s.vm.findClass "java/lang/StringUTF16" = some m.cls := findClass_of_methodNamed Bd.named
  have hnm := (name_of_methodNamed Bd.named Bd.method).1
  have X0 : Stand p l e ({ frames := 0, cells := 0, slots := 0, locals := 0 } : Room) s m #[(.ref sr_), (.int (0 : Int32)), (.ref ds_), (.int (0 : Int32)), (.int (4 : Int32))] below meth c s₁ [] 0 0 := Stand.of_body Bd
  have e0 : s₁.heap = h0 := by rw [← hh, Bd.state]; rfl
  have N0 := Fr.nil n0
  obtain ⟨G, pre0, hG⟩ : ∃ G : State → Prop, (∀ t, own_S p e below m s₁ 0 #[lvR sr_, lvI (0 : Int32), lvR ds_, lvI (0 : Int32), lvI (4 : Int32), .unset, .unset] [] t → G t) ∧ (∀ t, G t → Steps p.tables e below (s₁.setTop (entryFrame m #[(.ref sr_), (.int (0 : Int32)), (.ref ds_), (.int (0 : Int32)), (.int (4 : Int32))] 7)) t) := ⟨fun t => Steps p.tables e below (s₁.setTop (entryFrame m #[(.ref sr_), (.int (0 : Int32)), (.ref ds_), (.int (0 : Int32)), (.int (4 : Int32))] 7)) t, fun t k => castTop (efCp4 m sr_ ds_) k, fun _ k => k⟩
  have K0 : Keep h0 h0 [ds_] := Keep.refl _ _
  obtain ⟨c1, r1, q1, s1, z1, y1, G1⟩ := id P0
  have hin1 : ¬ ((0 : Int32) < 0 ∨ c1.slots.size ≤ ((0 : Int32)).toNatClampNeg) := inb_of s1 ⟨by decide, by decide⟩
  have hat1 : c1.slots[((0 : Int32)).toNatClampNeg]? = some (.int x0_) := Has.at y1 hin1 rfl
  have pre2 : ∀ t, own_S p e below m s₁ 20 #[lvR sr_, lvI (0 : Int32), lvR ds_, lvI (0 : Int32), lvI (4 : Int32), lvI (0 : Int32), lvI x0_] [(.int (255 : Int32)), (.int x0_)] t → G t := by
    intro t kt
    refine pre0 t ?_
    show own_S p e below m s₁ 0 #[lvR sr_, lvI (0 : Int32), lvR ds_, lvI (0 : Int32), lvI (4 : Int32), .unset, .unset] [] _
    refine XS.iconst X0.here hx rfl (hb hby d1_0) ?_
    refine XS.istore X0.here hx rfl (hb hby d1_1) rfl (l' := #[lvR sr_, lvI (0 : Int32), lvR ds_, lvI (0 : Int32), lvI (4 : Int32), lvI (0 : Int32), .unset]) rfl ?_
    refine XS.iload X0.here hx rfl (hb hby d1_3) rfl ?_
    refine XS.iload X0.here hx rfl (hb hby d1_5) rfl ?_
    show own_S p e below m s₁ 7 #[lvR sr_, lvI (0 : Int32), lvR ds_, lvI (0 : Int32), lvI (4 : Int32), lvI (0 : Int32), .unset] [(.int (4 : Int32)), (.int (0 : Int32))] _
    refine XS.icmpNo X0.here hx rfl (hb hby d1_7) rfl (tlt (by decide : (0 : Int32) < (4 : Int32))).2.1 ?_
    refine XS.aloadN X0.here hx rfl (hb hby d1_10) rfl rfl ?_
    refine XS.iloadN X0.here hx rfl (hb hby d1_11) rfl ?_
    show own_S p e below m s₁ 12 #[lvR sr_, lvI (0 : Int32), lvR ds_, lvI (0 : Int32), lvI (4 : Int32), lvI (0 : Int32), .unset] [(.int (0 : Int32)), (.ref sr_)] _
    refine X0.caload hx (j := (0 : Int32)) (v := (.int x0_)) (by rw [e0]; exact r1.1) (State.isArrayOf_alike hZ.alike r1.2.1) r1.2.2 hin1 hat1 (g := (mkF m 12 #[lvR sr_, lvI (0 : Int32), lvR ds_, lvI (0 : Int32), lvI (4 : Int32), lvI (0 : Int32), .unset] [(.int (0 : Int32)), (.ref sr_)])) rfl rfl (hb hby d1_12) _ ?_
    refine XS.istore X0.here hx rfl (hb hby d1_13) rfl (l' := #[lvR sr_, lvI (0 : Int32), lvR ds_, lvI (0 : Int32), lvI (4 : Int32), lvI (0 : Int32), lvI x0_]) rfl ?_
    refine XS.iload X0.here hx rfl (hb hby d1_15) rfl ?_
    refine XS.sipush X0.here hx rfl (hb hby d1_17) ?_
    exact kt
  by_cases hc3 : (255 : Int32) < x0_
  · have pre4 : ∀ t, own_S p e below m s₁ 25 #[lvR sr_, lvI (0 : Int32), lvR ds_, lvI (0 : Int32), lvI (4 : Int32), lvI (0 : Int32), lvI x0_] [(.int (0 : Int32))] t → G t := by
      intro t kt
      refine pre2 t ?_
      show own_S p e below m s₁ 20 #[lvR sr_, lvI (0 : Int32), lvR ds_, lvI (0 : Int32), lvI (4 : Int32), lvI (0 : Int32), lvI x0_] [(.int (255 : Int32)), (.int x0_)] _
      refine XS.icmpNo X0.here hx rfl (hb hby d1_20) rfl (tlt hc3).2.2.2 ?_
      refine XS.iload X0.here hx rfl (hb hby d1_23) rfl ?_
      exact kt
    obtain ⟨fs, hr, hrun, hended, hW, hsame⟩ := X0.leave (v := some (.int (0 : Int32))) (fun h => by rw [Bd.returns] at h; cases h)
    refine ⟨_, _, hG _ (pre4 _ (retOut X0 hx Bd.returns rfl (Or.inl ⟨rfl, Or.inl rfl, _, rfl⟩) (hb hby d1_25) hr)), hrun, hended, _, _, rfl, ?_, ⟨_, rfl⟩, hW, hsame.mono (by decide) (by decide)⟩
    show QCp4 Z sr_ ks_ ds_ kd_ x0_ x1_ x2_ x3_ h0 n0 _ s₁.heap _
    rw [e0]
    exact ⟨[(.int (0 : Int32)), (.int (0 : Int32)), (.int (0 : Int32)), (.int (0 : Int32))], (0 : Int32), rfl, (Or.inl ⟨rfl, hc3⟩), N0, K0, P1⟩
  · obtain ⟨c6, r6, q6, s6, z6, y6, G6⟩ := id P1
    have hin6 : ¬ ((0 : Int32) < 0 ∨ c6.slots.size ≤ ((0 : Int32)).toNatClampNeg) := inb_of s6 ⟨by decide, by decide⟩
    obtain ⟨T6, h6, X6, e6, W6, st6⟩ := stB X0 hx hZ e0 r6 (j := (0 : Int32)) hin6 (g := (mkF m 31 #[lvR sr_, lvI (0 : Int32), lvR ds_, lvI (0 : Int32), lvI (4 : Int32), lvI (0 : Int32), lvI x0_] [(.int (x0_.toInt8.toInt32)), (.int (0 : Int32)), (.ref ds_)])) rfl rfl (hb hby d1_31)
    have N7 := Fr.snoc X6 N0 P2
    have f8 : Arv Z h6 ds_ kd_ .byte (4 : Int32) [(.int ((x0_.toInt8.toInt32).toInt8.toInt32)), (.int (0 : Int32)), (.int (0 : Int32)), (.int (0 : Int32))] (.int (0 : Int32)) := Arv.set r6 q6 s6 z6 y6 G6 (fits_nar_byte _) W6 0 rfl (Nat.le_of_ble_eq_true rfl)
    have f9 : Arv Z h6 ds_ kd_ .byte (4 : Int32) [(.int (x0_.toInt8.toInt32)), (.int (0 : Int32)), (.int (0 : Int32)), (.int (0 : Int32))] (.int (0 : Int32)) := by have q := f8; rw [own_i2b2] at q; exact q
    have f10 : Arv Z h6 sr_ ks_ .char (4 : Int32) [(.int x0_), (.int x1_), (.int x2_), (.int x3_)] (.int (0 : Int32)) := P0.other W6 P3
    obtain ⟨c11, r11, q11, s11, z11, y11, G11⟩ := id f10
    have hin11 : ¬ ((1 : Int32) < 0 ∨ c11.slots.size ≤ ((1 : Int32)).toNatClampNeg) := inb_of s11 ⟨by decide, by decide⟩
    have hat11 : c11.slots[((1 : Int32)).toNatClampNeg]? = some (.int x1_) := Has.at y11 hin11 rfl
    have pre12 : ∀ t, own_S p e below m T6 20 #[lvR sr_, lvI (1 : Int32), lvR ds_, lvI (1 : Int32), lvI (4 : Int32), lvI (1 : Int32), lvI x1_] [(.int (255 : Int32)), (.int x1_)] t → G t := by
      intro t kt
      refine pre2 t ?_
      show own_S p e below m s₁ 20 #[lvR sr_, lvI (0 : Int32), lvR ds_, lvI (0 : Int32), lvI (4 : Int32), lvI (0 : Int32), lvI x0_] [(.int (255 : Int32)), (.int x0_)] _
      refine XS.icmpYes X0.here hx rfl (pc0 := 20) (pc' := 26) rfl (hb hby d1_20) rfl (flt hc3).2.2.2 (by decide) (by decide) ?_
      refine XS.aloadN X0.here hx rfl (hb hby d1_26) rfl rfl ?_
      refine XS.iloadN X0.here hx rfl (hb hby d1_27) rfl ?_
      refine XS.iload X0.here hx rfl (hb hby d1_28) rfl ?_
      show own_S p e below m s₁ 30 #[lvR sr_, lvI (0 : Int32), lvR ds_, lvI (0 : Int32), lvI (4 : Int32), lvI (0 : Int32), lvI x0_] [(.int x0_), (.int (0 : Int32)), (.ref ds_)] _
      refine XS.i2b X0.here hx rfl (hb hby d1_30) rfl ?_
      show own_S p e below m s₁ 31 #[lvR sr_, lvI (0 : Int32), lvR ds_, lvI (0 : Int32), lvI (4 : Int32), lvI (0 : Int32), lvI x0_] [(.int (x0_.toInt8.toInt32)), (.int (0 : Int32)), (.ref ds_)] _
      refine st6 _ ?_
      refine XS.iinc X6.here hx rfl (hb hby d1_32) rfl (l' := #[lvR sr_, lvI (1 : Int32), lvR ds_, lvI (0 : Int32), lvI (4 : Int32), lvI (0 : Int32), lvI x0_]) rfl ?_
      refine XS.iinc X6.here hx rfl (hb hby d1_35) rfl (l' := #[lvR sr_, lvI (1 : Int32), lvR ds_, lvI (1 : Int32), lvI (4 : Int32), lvI (0 : Int32), lvI x0_]) rfl ?_
      refine XS.iinc X6.here hx rfl (hb hby d1_38) rfl (l' := #[lvR sr_, lvI (1 : Int32), lvR ds_, lvI (1 : Int32), lvI (4 : Int32), lvI (1 : Int32), lvI x0_]) rfl ?_
      refine XS.goto X6.here hx rfl (pc0 := 41) (pc' := 3) rfl (hb hby d1_41) (by decide) (by decide) ?_
      refine XS.iload X6.here hx rfl (hb hby d1_3) rfl ?_
      show own_S p e below m T6 5 #[lvR sr_, lvI (1 : Int32), lvR ds_, lvI (1 : Int32), lvI (4 : Int32), lvI (1 : Int32), lvI x0_] [(.int (1 : Int32))] _
      refine XS.iload X6.here hx rfl (hb hby d1_5) rfl ?_
      show own_S p e below m T6 7 #[lvR sr_, lvI (1 : Int32), lvR ds_, lvI (1 : Int32), lvI (4 : Int32), lvI (1 : Int32), lvI x0_] [(.int (4 : Int32)), (.int (1 : Int32))] _
      refine XS.icmpNo X6.here hx rfl (hb hby d1_7) rfl (tlt (by decide : (1 : Int32) < (4 : Int32))).2.1 ?_
      refine XS.aloadN X6.here hx rfl (hb hby d1_10) rfl rfl ?_
      refine XS.iloadN X6.here hx rfl (hb hby d1_11) rfl ?_
      show own_S p e below m T6 12 #[lvR sr_, lvI (1 : Int32), lvR ds_, lvI (1 : Int32), lvI (4 : Int32), lvI (1 : Int32), lvI x0_] [(.int (1 : Int32)), (.ref sr_)] _
      refine X6.caload hx (j := (1 : Int32)) (v := (.int x1_)) (by rw [e6]; exact r11.1) (State.isArrayOf_alike hZ.alike r11.2.1) r11.2.2 hin11 hat11 (g := (mkF m 12 #[lvR sr_, lvI (1 : Int32), lvR ds_, lvI (1 : Int32), lvI (4 : Int32), lvI (1 : Int32), lvI x0_] [(.int (1 : Int32)), (.ref sr_)])) rfl rfl (hb hby d1_12) _ ?_
      refine XS.istore X6.here hx rfl (hb hby d1_13) rfl (l' := #[lvR sr_, lvI (1 : Int32), lvR ds_, lvI (1 : Int32), lvI (4 : Int32), lvI (1 : Int32), lvI x1_]) rfl ?_
      refine XS.iload X6.here hx rfl (hb hby d1_15) rfl ?_
      refine XS.sipush X6.here hx rfl (hb hby d1_17) ?_
      exact kt
    by_cases hc13 : (255 : Int32) < x1_
    · have pre14 : ∀ t, own_S p e below m T6 25 #[lvR sr_, lvI (1 : Int32), lvR ds_, lvI (1 : Int32), lvI (4 : Int32), lvI (1 : Int32), lvI x1_] [(.int (1 : Int32))] t → G t := by
        intro t kt
        refine pre12 t ?_
        show own_S p e below m T6 20 #[lvR sr_, lvI (1 : Int32), lvR ds_, lvI (1 : Int32), lvI (4 : Int32), lvI (1 : Int32), lvI x1_] [(.int (255 : Int32)), (.int x1_)] _
        refine XS.icmpNo X6.here hx rfl (hb hby d1_20) rfl (tlt hc13).2.2.2 ?_
        refine XS.iload X6.here hx rfl (hb hby d1_23) rfl ?_
        exact kt
      have f16 : Keep h0 h6 [ds_] := K0.wr W6 (Or.inl (List.mem_of_getElem? (i := 0) rfl))
      obtain ⟨fs, hr, hrun, hended, hW, hsame⟩ := X6.leave (v := some (.int (1 : Int32))) (fun h => by rw [Bd.returns] at h; cases h)
      refine ⟨_, _, hG _ (pre14 _ (retOut X6 hx Bd.returns rfl (Or.inl ⟨rfl, Or.inl rfl, _, rfl⟩) (hb hby d1_25) hr)), hrun, hended, _, _, rfl, ?_, ⟨_, rfl⟩, hW, hsame.mono (by decide) (by decide)⟩
      show QCp4 Z sr_ ks_ ds_ kd_ x0_ x1_ x2_ x3_ h0 n0 _ T6.heap _
      rw [e6]
      exact ⟨[(.int (x0_.toInt8.toInt32)), (.int (0 : Int32)), (.int (0 : Int32)), (.int (0 : Int32))], (1 : Int32), rfl, (Or.inr (Or.inl ⟨rfl, hc3, hc13⟩)), N7, f16, f9⟩
    · obtain ⟨c17, r17, q17, s17, z17, y17, G17⟩ := id f9
      have hin17 : ¬ ((1 : Int32) < 0 ∨ c17.slots.size ≤ ((1 : Int32)).toNatClampNeg) := inb_of s17 ⟨by decide, by decide⟩
      obtain ⟨T17, h17, X17, e17, W17, st17⟩ := stB X6 hx hZ e6 r17 (j := (1 : Int32)) hin17 (g := (mkF m 31 #[lvR sr_, lvI (1 : Int32), lvR ds_, lvI (1 : Int32), lvI (4 : Int32), lvI (1 : Int32), lvI x1_] [(.int (x1_.toInt8.toInt32)), (.int (1 : Int32)), (.ref ds_)])) rfl rfl (hb hby d1_31)
      have N18 := Fr.snoc X17 N7 P2
      have f19 : Arv Z h17 ds_ kd_ .byte (4 : Int32) [(.int (x0_.toInt8.toInt32)), (.int ((x1_.toInt8.toInt32).toInt8.toInt32)), (.int (0 : Int32)), (.int (0 : Int32))] (.int (0 : Int32)) := Arv.set r17 q17 s17 z17 y17 G17 (fits_nar_byte _) W17 1 rfl (Nat.le_of_ble_eq_true rfl)
      have f20 : Arv Z h17 ds_ kd_ .byte (4 : Int32) [(.int (x0_.toInt8.toInt32)), (.int (x1_.toInt8.toInt32)), (.int (0 : Int32)), (.int (0 : Int32))] (.int (0 : Int32)) := by have q := f19; rw [own_i2b2] at q; exact q
      have f21 : Arv Z h17 sr_ ks_ .char (4 : Int32) [(.int x0_), (.int x1_), (.int x2_), (.int x3_)] (.int (0 : Int32)) := f10.other W17 P3
      obtain ⟨c22, r22, q22, s22, z22, y22, G22⟩ := id f21
      have hin22 : ¬ ((2 : Int32) < 0 ∨ c22.slots.size ≤ ((2 : Int32)).toNatClampNeg) := inb_of s22 ⟨by decide, by decide⟩
      have hat22 : c22.slots[((2 : Int32)).toNatClampNeg]? = some (.int x2_) := Has.at y22 hin22 rfl
      have pre23 : ∀ t, own_S p e below m T17 20 #[lvR sr_, lvI (2 : Int32), lvR ds_, lvI (2 : Int32), lvI (4 : Int32), lvI (2 : Int32), lvI x2_] [(.int (255 : Int32)), (.int x2_)] t → G t := by
        intro t kt
        refine pre12 t ?_
        show own_S p e below m T6 20 #[lvR sr_, lvI (1 : Int32), lvR ds_, lvI (1 : Int32), lvI (4 : Int32), lvI (1 : Int32), lvI x1_] [(.int (255 : Int32)), (.int x1_)] _
        refine XS.icmpYes X6.here hx rfl (pc0 := 20) (pc' := 26) rfl (hb hby d1_20) rfl (flt hc13).2.2.2 (by decide) (by decide) ?_
        refine XS.aloadN X6.here hx rfl (hb hby d1_26) rfl rfl ?_
        refine XS.iloadN X6.here hx rfl (hb hby d1_27) rfl ?_
        refine XS.iload X6.here hx rfl (hb hby d1_28) rfl ?_
        show own_S p e below m T6 30 #[lvR sr_, lvI (1 : Int32), lvR ds_, lvI (1 : Int32), lvI (4 : Int32), lvI (1 : Int32), lvI x1_] [(.int x1_), (.int (1 : Int32)), (.ref ds_)] _
        refine XS.i2b X6.here hx rfl (hb hby d1_30) rfl ?_
        show own_S p e below m T6 31 #[lvR sr_, lvI (1 : Int32), lvR ds_, lvI (1 : Int32), lvI (4 : Int32), lvI (1 : Int32), lvI x1_] [(.int (x1_.toInt8.toInt32)), (.int (1 : Int32)), (.ref ds_)] _
        refine st17 _ ?_
        refine XS.iinc X17.here hx rfl (hb hby d1_32) rfl (l' := #[lvR sr_, lvI (2 : Int32), lvR ds_, lvI (1 : Int32), lvI (4 : Int32), lvI (1 : Int32), lvI x1_]) rfl ?_
        refine XS.iinc X17.here hx rfl (hb hby d1_35) rfl (l' := #[lvR sr_, lvI (2 : Int32), lvR ds_, lvI (2 : Int32), lvI (4 : Int32), lvI (1 : Int32), lvI x1_]) rfl ?_
        refine XS.iinc X17.here hx rfl (hb hby d1_38) rfl (l' := #[lvR sr_, lvI (2 : Int32), lvR ds_, lvI (2 : Int32), lvI (4 : Int32), lvI (2 : Int32), lvI x1_]) rfl ?_
        refine XS.goto X17.here hx rfl (pc0 := 41) (pc' := 3) rfl (hb hby d1_41) (by decide) (by decide) ?_
        refine XS.iload X17.here hx rfl (hb hby d1_3) rfl ?_
        show own_S p e below m T17 5 #[lvR sr_, lvI (2 : Int32), lvR ds_, lvI (2 : Int32), lvI (4 : Int32), lvI (2 : Int32), lvI x1_] [(.int (2 : Int32))] _
        refine XS.iload X17.here hx rfl (hb hby d1_5) rfl ?_
        show own_S p e below m T17 7 #[lvR sr_, lvI (2 : Int32), lvR ds_, lvI (2 : Int32), lvI (4 : Int32), lvI (2 : Int32), lvI x1_] [(.int (4 : Int32)), (.int (2 : Int32))] _
        refine XS.icmpNo X17.here hx rfl (hb hby d1_7) rfl (tlt (by decide : (2 : Int32) < (4 : Int32))).2.1 ?_
        refine XS.aloadN X17.here hx rfl (hb hby d1_10) rfl rfl ?_
        refine XS.iloadN X17.here hx rfl (hb hby d1_11) rfl ?_
        show own_S p e below m T17 12 #[lvR sr_, lvI (2 : Int32), lvR ds_, lvI (2 : Int32), lvI (4 : Int32), lvI (2 : Int32), lvI x1_] [(.int (2 : Int32)), (.ref sr_)] _
        refine X17.caload hx (j := (2 : Int32)) (v := (.int x2_)) (by rw [e17]; exact r22.1) (State.isArrayOf_alike hZ.alike r22.2.1) r22.2.2 hin22 hat22 (g := (mkF m 12 #[lvR sr_, lvI (2 : Int32), lvR ds_, lvI (2 : Int32), lvI (4 : Int32), lvI (2 : Int32), lvI x1_] [(.int (2 : Int32)), (.ref sr_)])) rfl rfl (hb hby d1_12) _ ?_
        refine XS.istore X17.here hx rfl (hb hby d1_13) rfl (l' := #[lvR sr_, lvI (2 : Int32), lvR ds_, lvI (2 : Int32), lvI (4 : Int32), lvI (2 : Int32), lvI x2_]) rfl ?_
        refine XS.iload X17.here hx rfl (hb hby d1_15) rfl ?_
        refine XS.sipush X17.here hx rfl (hb hby d1_17) ?_
        exact kt
      by_cases hc24 : (255 : Int32) < x2_
      · have pre25 : ∀ t, own_S p e below m T17 25 #[lvR sr_, lvI (2 : Int32), lvR ds_, lvI (2 : Int32), lvI (4 : Int32), lvI (2 : Int32), lvI x2_] [(.int (2 : Int32))] t → G t := by
          intro t kt
          refine pre23 t ?_
          show own_S p e below m T17 20 #[lvR sr_, lvI (2 : Int32), lvR ds_, lvI (2 : Int32), lvI (4 : Int32), lvI (2 : Int32), lvI x2_] [(.int (255 : Int32)), (.int x2_)] _
          refine XS.icmpNo X17.here hx rfl (hb hby d1_20) rfl (tlt hc24).2.2.2 ?_
          refine XS.iload X17.here hx rfl (hb hby d1_23) rfl ?_
          exact kt
        have f27 : Keep h0 h6 [ds_] := K0.wr W6 (Or.inl (List.mem_of_getElem? (i := 0) rfl))
        have f28 : Keep h0 h17 [ds_] := f27.wr W17 (Or.inl (List.mem_of_getElem? (i := 0) rfl))
        obtain ⟨fs, hr, hrun, hended, hW, hsame⟩ := X17.leave (v := some (.int (2 : Int32))) (fun h => by rw [Bd.returns] at h; cases h)
        refine ⟨_, _, hG _ (pre25 _ (retOut X17 hx Bd.returns rfl (Or.inl ⟨rfl, Or.inl rfl, _, rfl⟩) (hb hby d1_25) hr)), hrun, hended, _, _, rfl, ?_, ⟨_, rfl⟩, hW, hsame.mono (by decide) (by decide)⟩
        show QCp4 Z sr_ ks_ ds_ kd_ x0_ x1_ x2_ x3_ h0 n0 _ T17.heap _
        rw [e17]
        exact ⟨[(.int (x0_.toInt8.toInt32)), (.int (x1_.toInt8.toInt32)), (.int (0 : Int32)), (.int (0 : Int32))], (2 : Int32), rfl, (Or.inr (Or.inr (Or.inl ⟨rfl, hc3, hc13, hc24⟩))), N18, f28, f20⟩
      · obtain ⟨c29, r29, q29, s29, z29, y29, G29⟩ := id f20
        have hin29 : ¬ ((2 : Int32) < 0 ∨ c29.slots.size ≤ ((2 : Int32)).toNatClampNeg) := inb_of s29 ⟨by decide, by decide⟩
        obtain ⟨T29, h29, X29, e29, W29, st29⟩ := stB X17 hx hZ e17 r29 (j := (2 : Int32)) hin29 (g := (mkF m 31 #[lvR sr_, lvI (2 : Int32), lvR ds_, lvI (2 : Int32), lvI (4 : Int32), lvI (2 : Int32), lvI x2_] [(.int (x2_.toInt8.toInt32)), (.int (2 : Int32)), (.ref ds_)])) rfl rfl (hb hby d1_31)
        have N30 := Fr.snoc X29 N18 P2
        have f31 : Arv Z h29 ds_ kd_ .byte (4 : Int32) [(.int (x0_.toInt8.toInt32)), (.int (x1_.toInt8.toInt32)), (.int ((x2_.toInt8.toInt32).toInt8.toInt32)), (.int (0 : Int32))] (.int (0 : Int32)) := Arv.set r29 q29 s29 z29 y29 G29 (fits_nar_byte _) W29 2 rfl (Nat.le_of_ble_eq_true rfl)
        have f32 : Arv Z h29 ds_ kd_ .byte (4 : Int32) [(.int (x0_.toInt8.toInt32)), (.int (x1_.toInt8.toInt32)), (.int (x2_.toInt8.toInt32)), (.int (0 : Int32))] (.int (0 : Int32)) := by have q := f31; rw [own_i2b2] at q; exact q
        have f33 : Arv Z h29 sr_ ks_ .char (4 : Int32) [(.int x0_), (.int x1_), (.int x2_), (.int x3_)] (.int (0 : Int32)) := f21.other W29 P3
        obtain ⟨c34, r34, q34, s34, z34, y34, G34⟩ := id f33
        have hin34 : ¬ ((3 : Int32) < 0 ∨ c34.slots.size ≤ ((3 : Int32)).toNatClampNeg) := inb_of s34 ⟨by decide, by decide⟩
        have hat34 : c34.slots[((3 : Int32)).toNatClampNeg]? = some (.int x3_) := Has.at y34 hin34 rfl
        have pre35 : ∀ t, own_S p e below m T29 20 #[lvR sr_, lvI (3 : Int32), lvR ds_, lvI (3 : Int32), lvI (4 : Int32), lvI (3 : Int32), lvI x3_] [(.int (255 : Int32)), (.int x3_)] t → G t := by
          intro t kt
          refine pre23 t ?_
          show own_S p e below m T17 20 #[lvR sr_, lvI (2 : Int32), lvR ds_, lvI (2 : Int32), lvI (4 : Int32), lvI (2 : Int32), lvI x2_] [(.int (255 : Int32)), (.int x2_)] _
          refine XS.icmpYes X17.here hx rfl (pc0 := 20) (pc' := 26) rfl (hb hby d1_20) rfl (flt hc24).2.2.2 (by decide) (by decide) ?_
          refine XS.aloadN X17.here hx rfl (hb hby d1_26) rfl rfl ?_
          refine XS.iloadN X17.here hx rfl (hb hby d1_27) rfl ?_
          refine XS.iload X17.here hx rfl (hb hby d1_28) rfl ?_
          show own_S p e below m T17 30 #[lvR sr_, lvI (2 : Int32), lvR ds_, lvI (2 : Int32), lvI (4 : Int32), lvI (2 : Int32), lvI x2_] [(.int x2_), (.int (2 : Int32)), (.ref ds_)] _
          refine XS.i2b X17.here hx rfl (hb hby d1_30) rfl ?_
          show own_S p e below m T17 31 #[lvR sr_, lvI (2 : Int32), lvR ds_, lvI (2 : Int32), lvI (4 : Int32), lvI (2 : Int32), lvI x2_] [(.int (x2_.toInt8.toInt32)), (.int (2 : Int32)), (.ref ds_)] _
          refine st29 _ ?_
          refine XS.iinc X29.here hx rfl (hb hby d1_32) rfl (l' := #[lvR sr_, lvI (3 : Int32), lvR ds_, lvI (2 : Int32), lvI (4 : Int32), lvI (2 : Int32), lvI x2_]) rfl ?_
          refine XS.iinc X29.here hx rfl (hb hby d1_35) rfl (l' := #[lvR sr_, lvI (3 : Int32), lvR ds_, lvI (3 : Int32), lvI (4 : Int32), lvI (2 : Int32), lvI x2_]) rfl ?_
          refine XS.iinc X29.here hx rfl (hb hby d1_38) rfl (l' := #[lvR sr_, lvI (3 : Int32), lvR ds_, lvI (3 : Int32), lvI (4 : Int32), lvI (3 : Int32), lvI x2_]) rfl ?_
          refine XS.goto X29.here hx rfl (pc0 := 41) (pc' := 3) rfl (hb hby d1_41) (by decide) (by decide) ?_
          refine XS.iload X29.here hx rfl (hb hby d1_3) rfl ?_
          show own_S p e below m T29 5 #[lvR sr_, lvI (3 : Int32), lvR ds_, lvI (3 : Int32), lvI (4 : Int32), lvI (3 : Int32), lvI x2_] [(.int (3 : Int32))] _
          refine XS.iload X29.here hx rfl (hb hby d1_5) rfl ?_
          show own_S p e below m T29 7 #[lvR sr_, lvI (3 : Int32), lvR ds_, lvI (3 : Int32), lvI (4 : Int32), lvI (3 : Int32), lvI x2_] [(.int (4 : Int32)), (.int (3 : Int32))] _
          refine XS.icmpNo X29.here hx rfl (hb hby d1_7) rfl (tlt (by decide : (3 : Int32) < (4 : Int32))).2.1 ?_
          refine XS.aloadN X29.here hx rfl (hb hby d1_10) rfl rfl ?_
          refine XS.iloadN X29.here hx rfl (hb hby d1_11) rfl ?_
          show own_S p e below m T29 12 #[lvR sr_, lvI (3 : Int32), lvR ds_, lvI (3 : Int32), lvI (4 : Int32), lvI (3 : Int32), lvI x2_] [(.int (3 : Int32)), (.ref sr_)] _
          refine X29.caload hx (j := (3 : Int32)) (v := (.int x3_)) (by rw [e29]; exact r34.1) (State.isArrayOf_alike hZ.alike r34.2.1) r34.2.2 hin34 hat34 (g := (mkF m 12 #[lvR sr_, lvI (3 : Int32), lvR ds_, lvI (3 : Int32), lvI (4 : Int32), lvI (3 : Int32), lvI x2_] [(.int (3 : Int32)), (.ref sr_)])) rfl rfl (hb hby d1_12) _ ?_
          refine XS.istore X29.here hx rfl (hb hby d1_13) rfl (l' := #[lvR sr_, lvI (3 : Int32), lvR ds_, lvI (3 : Int32), lvI (4 : Int32), lvI (3 : Int32), lvI x3_]) rfl ?_
          refine XS.iload X29.here hx rfl (hb hby d1_15) rfl ?_
          refine XS.sipush X29.here hx rfl (hb hby d1_17) ?_
          exact kt
        by_cases hc36 : (255 : Int32) < x3_
        · have pre37 : ∀ t, own_S p e below m T29 25 #[lvR sr_, lvI (3 : Int32), lvR ds_, lvI (3 : Int32), lvI (4 : Int32), lvI (3 : Int32), lvI x3_] [(.int (3 : Int32))] t → G t := by
            intro t kt
            refine pre35 t ?_
            show own_S p e below m T29 20 #[lvR sr_, lvI (3 : Int32), lvR ds_, lvI (3 : Int32), lvI (4 : Int32), lvI (3 : Int32), lvI x3_] [(.int (255 : Int32)), (.int x3_)] _
            refine XS.icmpNo X29.here hx rfl (hb hby d1_20) rfl (tlt hc36).2.2.2 ?_
            refine XS.iload X29.here hx rfl (hb hby d1_23) rfl ?_
            exact kt
          have f39 : Keep h0 h6 [ds_] := K0.wr W6 (Or.inl (List.mem_of_getElem? (i := 0) rfl))
          have f40 : Keep h0 h17 [ds_] := f39.wr W17 (Or.inl (List.mem_of_getElem? (i := 0) rfl))
          have f41 : Keep h0 h29 [ds_] := f40.wr W29 (Or.inl (List.mem_of_getElem? (i := 0) rfl))
          obtain ⟨fs, hr, hrun, hended, hW, hsame⟩ := X29.leave (v := some (.int (3 : Int32))) (fun h => by rw [Bd.returns] at h; cases h)
          refine ⟨_, _, hG _ (pre37 _ (retOut X29 hx Bd.returns rfl (Or.inl ⟨rfl, Or.inl rfl, _, rfl⟩) (hb hby d1_25) hr)), hrun, hended, _, _, rfl, ?_, ⟨_, rfl⟩, hW, hsame.mono (by decide) (by decide)⟩
          show QCp4 Z sr_ ks_ ds_ kd_ x0_ x1_ x2_ x3_ h0 n0 _ T29.heap _
          rw [e29]
          exact ⟨[(.int (x0_.toInt8.toInt32)), (.int (x1_.toInt8.toInt32)), (.int (x2_.toInt8.toInt32)), (.int (0 : Int32))], (3 : Int32), rfl, (Or.inr (Or.inr (Or.inr (Or.inl ⟨rfl, hc3, hc13, hc24, hc36⟩)))), N30, f41, f32⟩
        · obtain ⟨c42, r42, q42, s42, z42, y42, G42⟩ := id f32
          have hin42 : ¬ ((3 : Int32) < 0 ∨ c42.slots.size ≤ ((3 : Int32)).toNatClampNeg) := inb_of s42 ⟨by decide, by decide⟩
          obtain ⟨T42, h42, X42, e42, W42, st42⟩ := stB X29 hx hZ e29 r42 (j := (3 : Int32)) hin42 (g := (mkF m 31 #[lvR sr_, lvI (3 : Int32), lvR ds_, lvI (3 : Int32), lvI (4 : Int32), lvI (3 : Int32), lvI x3_] [(.int (x3_.toInt8.toInt32)), (.int (3 : Int32)), (.ref ds_)])) rfl rfl (hb hby d1_31)
          have N43 := Fr.snoc X42 N30 P2
          have f44 : Arv Z h42 ds_ kd_ .byte (4 : Int32) [(.int (x0_.toInt8.toInt32)), (.int (x1_.toInt8.toInt32)), (.int (x2_.toInt8.toInt32)), (.int ((x3_.toInt8.toInt32).toInt8.toInt32))] (.int (0 : Int32)) := Arv.set r42 q42 s42 z42 y42 G42 (fits_nar_byte _) W42 3 rfl (Nat.le_of_ble_eq_true rfl)
          have f45 : Arv Z h42 ds_ kd_ .byte (4 : Int32) [(.int (x0_.toInt8.toInt32)), (.int (x1_.toInt8.toInt32)), (.int (x2_.toInt8.toInt32)), (.int (x3_.toInt8.toInt32))] (.int (0 : Int32)) := by have q := f44; rw [own_i2b2] at q; exact q
          have pre46 : ∀ t, own_S p e below m T42 46 #[lvR sr_, lvI (4 : Int32), lvR ds_, lvI (4 : Int32), lvI (4 : Int32), lvI (4 : Int32), lvI x3_] [(.int (4 : Int32))] t → G t := by
            intro t kt
            refine pre35 t ?_
            show own_S p e below m T29 20 #[lvR sr_, lvI (3 : Int32), lvR ds_, lvI (3 : Int32), lvI (4 : Int32), lvI (3 : Int32), lvI x3_] [(.int (255 : Int32)), (.int x3_)] _
            refine XS.icmpYes X29.here hx rfl (pc0 := 20) (pc' := 26) rfl (hb hby d1_20) rfl (flt hc36).2.2.2 (by decide) (by decide) ?_
            refine XS.aloadN X29.here hx rfl (hb hby d1_26) rfl rfl ?_
            refine XS.iloadN X29.here hx rfl (hb hby d1_27) rfl ?_
            refine XS.iload X29.here hx rfl (hb hby d1_28) rfl ?_
            show own_S p e below m T29 30 #[lvR sr_, lvI (3 : Int32), lvR ds_, lvI (3 : Int32), lvI (4 : Int32), lvI (3 : Int32), lvI x3_] [(.int x3_), (.int (3 : Int32)), (.ref ds_)] _
            refine XS.i2b X29.here hx rfl (hb hby d1_30) rfl ?_
            show own_S p e below m T29 31 #[lvR sr_, lvI (3 : Int32), lvR ds_, lvI (3 : Int32), lvI (4 : Int32), lvI (3 : Int32), lvI x3_] [(.int (x3_.toInt8.toInt32)), (.int (3 : Int32)), (.ref ds_)] _
            refine st42 _ ?_
            refine XS.iinc X42.here hx rfl (hb hby d1_32) rfl (l' := #[lvR sr_, lvI (4 : Int32), lvR ds_, lvI (3 : Int32), lvI (4 : Int32), lvI (3 : Int32), lvI x3_]) rfl ?_
            refine XS.iinc X42.here hx rfl (hb hby d1_35) rfl (l' := #[lvR sr_, lvI (4 : Int32), lvR ds_, lvI (4 : Int32), lvI (4 : Int32), lvI (3 : Int32), lvI x3_]) rfl ?_
            refine XS.iinc X42.here hx rfl (hb hby d1_38) rfl (l' := #[lvR sr_, lvI (4 : Int32), lvR ds_, lvI (4 : Int32), lvI (4 : Int32), lvI (4 : Int32), lvI x3_]) rfl ?_
            refine XS.goto X42.here hx rfl (pc0 := 41) (pc' := 3) rfl (hb hby d1_41) (by decide) (by decide) ?_
            refine XS.iload X42.here hx rfl (hb hby d1_3) rfl ?_
            show own_S p e below m T42 5 #[lvR sr_, lvI (4 : Int32), lvR ds_, lvI (4 : Int32), lvI (4 : Int32), lvI (4 : Int32), lvI x3_] [(.int (4 : Int32))] _
            refine XS.iload X42.here hx rfl (hb hby d1_5) rfl ?_
            show own_S p e below m T42 7 #[lvR sr_, lvI (4 : Int32), lvR ds_, lvI (4 : Int32), lvI (4 : Int32), lvI (4 : Int32), lvI x3_] [(.int (4 : Int32)), (.int (4 : Int32))] _
            refine XS.icmpYes X42.here hx rfl (pc0 := 7) (pc' := 44) rfl (hb hby d1_7) rfl (flt (by decide : ¬ ((4 : Int32) < (4 : Int32)))).2.1 (by decide) (by decide) ?_
            refine XS.iload X42.here hx rfl (hb hby d1_44) rfl ?_
            exact kt
          have f48 : Keep h0 h6 [ds_] := K0.wr W6 (Or.inl (List.mem_of_getElem? (i := 0) rfl))
          have f49 : Keep h0 h17 [ds_] := f48.wr W17 (Or.inl (List.mem_of_getElem? (i := 0) rfl))
          have f50 : Keep h0 h29 [ds_] := f49.wr W29 (Or.inl (List.mem_of_getElem? (i := 0) rfl))
          have f51 : Keep h0 h42 [ds_] := f50.wr W42 (Or.inl (List.mem_of_getElem? (i := 0) rfl))
          obtain ⟨fs, hr, hrun, hended, hW, hsame⟩ := X42.leave (v := some (.int (4 : Int32))) (fun h => by rw [Bd.returns] at h; cases h)
          refine ⟨_, _, hG _ (pre46 _ (retOut X42 hx Bd.returns rfl (Or.inl ⟨rfl, Or.inl rfl, _, rfl⟩) (hb hby d1_46) hr)), hrun, hended, _, _, rfl, ?_, ⟨_, rfl⟩, hW, hsame.mono (by decide) (by decide)⟩
          show QCp4 Z sr_ ks_ ds_ kd_ x0_ x1_ x2_ x3_ h0 n0 _ T42.heap _
          rw [e42]
          exact ⟨[(.int (x0_.toInt8.toInt32)), (.int (x1_.toInt8.toInt32)), (.int (x2_.toInt8.toInt32)), (.int (x3_.toInt8.toInt32))], (4 : Int32), rfl, (Or.inr (Or.inr (Or.inr (Or.inr ⟨rfl, hc3, hc13, hc24, hc36⟩)))), N43, f51, f45⟩
theorem efnewBytesLength39 (m : MethodId)  : entryFrame m #[(.int (4 : Int32))] 1 = mkF m 0 #[lvI (4 : Int32)] [] := by first | (simp [entryFrame, mkF, argsToLocals, Value.category]; done) | rfl
def QnewBytesLength39 (Z : State)  (h0 : Heap) (n0 : Nat) (v : Option Value) (h : Heap) (L : List Loc) : Prop := v = some (.int (8 : Int32)) ∧ Fr n0 L ∧ h = h0
set_option maxRecDepth 65536 in
set_option maxHeartbeats 40000000 in
theorem rmnewBytesLength39 (l : Launch) (Z : State) (a0 : Array Value) (hw : ∀ d ∈ tables_1, d.before a0 Z = true) (ws : List Jvm.Cond)  (h0 : Heap) (n0 : Nat) (O0 : Old Z n0 h0)  :
    MetFree l (⟨"java/lang/StringUTF16", "newBytesLength", "(I)I"⟩ : MethodName) (head1 (Jvm.Cond.code (⟨"java/lang/StringUTF16", "newBytesLength", "(I)I"⟩ : MethodName) jdk_52_method_3_code 1 (some .int) :: ws) ({ frames := 0, cells := 0, slots := 0, locals := 0 } : Room)) (fun a U => a = #[(.int (4 : Int32))] ∧ Z.Warmed39 U.vm ∧ U.heap = h0) (fun _ _ _ _ _ => True) (fun _ U o U' => ∃ v L, o = .returned v ∧ QnewBytesLength39 Z  h0 n0 v U'.heap L ∧ FrameEnd U o U' L ({ frames := 0, cells := 0, slots := 0, locals := 0 } : Room).cells ({ frames := 0, cells := 0, slots := 0, locals := 0 } : Room).slots) := by
  refine MetFree.of_bodySF (plainFor_of_name pn_0) hisR ?_
  intro p e s m args below meth c s₁ Bd hml0 hP hK
  obtain ⟨rfl, hZ, hh⟩ := hP
  have hx := Bd.exec
  have hby := Bd.bytes
  have hml : c.maxLocals = 1 := hml0
  have hown : s.vm.findClass "java/lang/StringUTF16" = some m.cls := findClass_of_methodNamed Bd.named
  have hnm := (name_of_methodNamed Bd.named Bd.method).1
  have X0 : Stand p l e ({ frames := 0, cells := 0, slots := 0, locals := 0 } : Room) s m #[(.int (4 : Int32))] below meth c s₁ [] 0 0 := Stand.of_body Bd
  have e0 : s₁.heap = h0 := by rw [← hh, Bd.state]; rfl
  have N0 := Fr.nil n0
  obtain ⟨G, pre0, hG⟩ : ∃ G : State → Prop, (∀ t, own_S p e below m s₁ 0 #[lvI (4 : Int32)] [] t → G t) ∧ (∀ t, G t → Steps p.tables e below (s₁.setTop (entryFrame m #[(.int (4 : Int32))] 1)) t) := ⟨fun t => Steps p.tables e below (s₁.setTop (entryFrame m #[(.int (4 : Int32))] 1)) t, fun t k => castTop (efnewBytesLength39 m ) k, fun _ k => k⟩
  have K0 : Keep h0 h0 [] := Keep.refl _ _
  have pre1 : ∀ t, own_S p e below m s₁ 58 #[lvI (4 : Int32)] [(.int (8 : Int32))] t → G t := by
    intro t kt
    refine pre0 t ?_
    show own_S p e below m s₁ 0 #[lvI (4 : Int32)] [] _
    refine XS.iloadN X0.here hx rfl (hb hby d5_0) rfl ?_
    show own_S p e below m s₁ 1 #[lvI (4 : Int32)] [(.int (4 : Int32))] _
    refine XS.ifYes X0.here hx rfl (pc0 := 1) (pc' := 12) rfl (hb hby d5_1) rfl ((if0 _ _).trans (flt (by decide : ¬ ((4 : Int32) < (0 : Int32)))).2.1) (by decide) (by decide) ?_
    refine XS.iloadN X0.here hx rfl (hb hby d5_12) rfl ?_
    show own_S p e below m s₁ 13 #[lvI (4 : Int32)] [(.int (4 : Int32))] _
    refine X0.ldcInt hx hown (mvT hZ (own_w hw 55 rfl)) (g := (mkF m 13 #[lvI (4 : Int32)] [(.int (4 : Int32))])) rfl (hb hby d5_13) _ ?_
    show own_S p e below m s₁ 15 #[lvI (4 : Int32)] [(.int (1073741823 : Int32)), (.int (4 : Int32))] _
    refine XS.icmpYes X0.here hx rfl (pc0 := 15) (pc' := 55) rfl (hb hby d5_15) rfl (tlt (by decide : (4 : Int32) < (1073741823 : Int32))).1 (by decide) (by decide) ?_
    refine XS.iloadN X0.here hx rfl (hb hby d5_55) rfl ?_
    refine XS.iconst X0.here hx rfl (hb hby d5_56) ?_
    show own_S p e below m s₁ 57 #[lvI (4 : Int32)] [(.int (1 : Int32)), (.int (4 : Int32))] _
    refine XS.ishl X0.here hx rfl (hb hby d5_57) rfl ?_
    exact kt
  obtain ⟨fs, hr, hrun, hended, hW, hsame⟩ := X0.leave (v := some (.int (8 : Int32))) (fun h => by rw [Bd.returns] at h; cases h)
  refine ⟨_, _, hG _ (pre1 _ (retOut X0 hx Bd.returns rfl (Or.inl ⟨rfl, Or.inl rfl, _, rfl⟩) (hb hby d5_58) hr)), hrun, hended, _, _, rfl, ?_, ⟨_, rfl⟩, hW, hsame.mono (by decide) (by decide)⟩
  show QnewBytesLength39 Z  h0 n0 _ s₁.heap _
  rw [e0]
  exact ⟨rfl, N0, rfl⟩
theorem efnewBytesFor38 (m : MethodId)  : entryFrame m #[(.int (4 : Int32))] 1 = mkF m 0 #[lvI (4 : Int32)] [] := by first | (simp [entryFrame, mkF, argsToLocals, Value.category]; done) | rfl
def QnewBytesFor38 (Z : State)  (h0 : Heap) (n0 : Nat) (v : Option Value) (h : Heap) (L : List Loc) : Prop := ∃ k3 : ClassId, ∃ nb3 : Addr, v = some (.ref nb3) ∧ Fr n0 L ∧ Keep h0 h [] ∧ h0.size ≤ nb3 ∧ Arv Z h nb3 k3 .byte (8 : Int32) [(.int (0 : Int32)), (.int (0 : Int32)), (.int (0 : Int32)), (.int (0 : Int32)), (.int (0 : Int32)), (.int (0 : Int32)), (.int (0 : Int32)), (.int (0 : Int32))] (.int (0 : Int32)) ∧ Exa Z h nb3 "[B"
set_option maxRecDepth 65536 in
set_option maxHeartbeats 40000000 in
theorem rmnewBytesFor38 (l : Launch) (Z : State) (a0 : Array Value) (hw : ∀ d ∈ tables_1, d.before a0 Z = true) (ws : List Jvm.Cond)  (h0 : Heap) (n0 : Nat) (O0 : Old Z n0 h0)  :
    MetFree l (⟨"java/lang/StringUTF16", "newBytesFor", "(I)[B"⟩ : MethodName) (head1 (Jvm.Cond.code (⟨"java/lang/StringUTF16", "newBytesFor", "(I)[B"⟩ : MethodName) jdk_52_method_2_code 1 (some (.array .byte)) :: ws) ({ frames := 1, cells := 1, slots := 8, locals := 12 } : Room)) (fun a U => a = #[(.int (4 : Int32))] ∧ Z.Warmed39 U.vm ∧ U.heap = h0) (fun _ _ _ _ _ => True) (fun _ U o U' => ∃ v L, o = .returned v ∧ QnewBytesFor38 Z  h0 n0 v U'.heap L ∧ FrameEnd U o U' L ({ frames := 1, cells := 1, slots := 8, locals := 12 } : Room).cells ({ frames := 1, cells := 1, slots := 8, locals := 12 } : Room).slots) := by
  refine MetFree.of_bodySF (plainFor_of_name pn_0) hisR ?_
  intro p e s m args below meth c s₁ Bd hml0 hP hK
  obtain ⟨rfl, hZ, hh⟩ := hP
  have hx := Bd.exec
  have hby := Bd.bytes
  have hml : c.maxLocals = 1 := hml0
  have hown : s.vm.findClass "java/lang/StringUTF16" = some m.cls := findClass_of_methodNamed Bd.named
  have hnm := (name_of_methodNamed Bd.named Bd.method).1
  have X0 : Stand p l e ({ frames := 1, cells := 1, slots := 8, locals := 12 } : Room) s m #[(.int (4 : Int32))] below meth c s₁ [] 0 0 := Stand.of_body Bd
  have e0 : s₁.heap = h0 := by rw [← hh, Bd.state]; rfl
  have N0 := Fr.nil n0
  obtain ⟨G, pre0, hG⟩ : ∃ G : State → Prop, (∀ t, own_S p e below m s₁ 0 #[lvI (4 : Int32)] [] t → G t) ∧ (∀ t, G t → Steps p.tables e below (s₁.setTop (entryFrame m #[(.int (4 : Int32))] 1)) t) := ⟨fun t => Steps p.tables e below (s₁.setTop (entryFrame m #[(.int (4 : Int32))] 1)) t, fun t k => castTop (efnewBytesFor38 m ) k, fun _ k => k⟩
  have K0 : Keep h0 h0 [] := Keep.refl _ _
  obtain ⟨_, _, ⟨T1, L1, k1, n1⟩, -, X1, ⟨Lc1, hQ1, l1, y1, z1⟩, st1⟩ := Jvm.LawKit.callS X0 hx (y := (⟨"java/lang/StringUTF16", "newBytesLength", "(I)I"⟩ : MethodName)) hown (mvT hZ (own_w hw 52 rfl)) (mvT hZ (own_w hw 53 rfl)) (mvT hZ (own_w hw 17 rfl)) (mvT hZ (own_w hw 54 rfl)) (by decide) (backOf (W := 0) (rmnewBytesLength39 l Z a0 hw []  h0 n0 O0 ) hZ (own_w hw 54 rfl) (own_w hw 17 rfl) (by decide) (by decide)) (g := (mkF m 1 #[lvI (4 : Int32)] [(.int (4 : Int32))])) rfl (by rw [hml]; rfl) (argsL := [(.int (4 : Int32))]) (rest := []) (lenOf pd_1 rfl) rfl (by show 2 * 0 + _ ≤ _; exact Nat.le_of_eq rfl) (hb hby d4_1) (fun _ _ => ⟨rfl, e0, (by decide : 0 + 0 ≤ _), (by decide : 0 + 0 ≤ _)⟩)
  dsimp only [Pt.U, Pt.locs, Pt.cells, Pt.slots] at X1 l1 y1 z1 st1 hQ1
  subst l1 y1 z1
  obtain ⟨h1, e1⟩ : ∃ z, T1.heap = z := ⟨_, rfl⟩
  rw [e1] at hQ1
  obtain ⟨rfl, N1q, hh1⟩ := hQ1
  have N2 := Fr.app N0 N1q
  have e1' : T1.heap = h0 := e1.trans hh1
  obtain ⟨T3, h3, k3, X3, e3, E3, A3, Z3, st3⟩ := newPE X1 hx hZ (own_w hw 19 rfl) e1' (g := (mkF m 4 #[lvI (4 : Int32)] [(.int (8 : Int32))])) rfl (hb hby d4_4) rfl (by decide) (cap := 8) (by decide) (by decide) (by decide) (by decide) (ad := "[B") (by decide)
  obtain ⟨b3, g3⟩ : ∃ z, z = h0.size := ⟨_, rfl⟩
  rw [← g3] at A3 Z3 st3
  have ge4 : n0 ≤ b3 := Nat.le_trans (Nat.le_trans (Nat.le_of_eq O0.1.symm) O0.2.1) (Nat.le_of_eq g3.symm)
  have sz5 : h0.size ≤ b3 := Nat.le_trans K0.1 (Nat.le_of_eq g3.symm)
  have f6 : Arv Z h3 b3 k3 .byte (8 : Int32) [(.int (0 : Int32)), (.int (0 : Int32)), (.int (0 : Int32)), (.int (0 : Int32)), (.int (0 : Int32)), (.int (0 : Int32)), (.int (0 : Int32)), (.int (0 : Int32))] (.int (0 : Int32)) := (Arv.new A3 (by decide)).pad (pad_rep [] (.int (0 : Int32)) 8)
  have pre7 : ∀ t, own_S p e below m T3 6 #[lvI (4 : Int32)] [(.ref b3)] t → G t := by
    intro t kt
    refine pre0 t ?_
    show own_S p e below m s₁ 0 #[lvI (4 : Int32)] [] _
    refine XS.iloadN X0.here hx rfl (hb hby d4_0) rfl ?_
    show own_S p e below m s₁ 1 #[lvI (4 : Int32)] [(.int (4 : Int32))] _
    refine st1 _ ?_
    show own_S p e below m T1 4 #[lvI (4 : Int32)] [(.int (8 : Int32))] _
    refine st3 _ ?_
    exact kt
  have f9 : Keep h0 h3 [] := K0.ext E3
  obtain ⟨fs, hr, hrun, hended, hW, hsame⟩ := X3.leave (v := some (.ref b3)) (fun h => by rw [Bd.returns] at h; cases h)
  refine ⟨_, _, hG _ (pre7 _ (retOut X3 hx Bd.returns rfl (Or.inr (Or.inr (Or.inr (Or.inr ⟨rfl, rfl, rfl⟩)))) (hb hby d4_6) hr)), hrun, hended, _, _, rfl, ?_, ⟨_, rfl⟩, hW, hsame.mono (by decide) (by decide)⟩
  show QnewBytesFor38 Z  h0 n0 _ T3.heap _
  rw [e3]
  exact ⟨k3, b3, rfl, N2, f9, sz5, f6, Z3⟩
theorem efputChar43 (m : MethodId) (o0_ : Addr) (x0_ : Int32) : entryFrame m #[(.ref o0_), (.int (0 : Int32)), (.int x0_)] 3 = mkF m 0 #[lvR o0_, lvI (0 : Int32), lvI x0_] [] := by first | (simp [entryFrame, mkF, argsToLocals, Value.category]; done) | rfl
def QputChar43 (Z : State) (o0_ : Addr) (x0_ : Int32) (ko0_ : ClassId) (h0 : Heap) (n0 : Nat) (v : Option Value) (h : Heap) (L : List Loc) : Prop := v = none ∧ Fr n0 L ∧ Keep h0 h [o0_] ∧ Arv Z h o0_ ko0_ .byte (8 : Int32) [(.int ((x0_ >>> ((0 : Int32) &&& 31)).toInt8.toInt32)), (.int ((x0_ >>> ((8 : Int32) &&& 31)).toInt8.toInt32)), (.int (0 : Int32)), (.int (0 : Int32)), (.int (0 : Int32)), (.int (0 : Int32)), (.int (0 : Int32)), (.int (0 : Int32))] (.int (0 : Int32)) ∧ Exa Z h o0_ "[B"
set_option maxRecDepth 65536 in
set_option maxHeartbeats 40000000 in
theorem rmputChar43 (l : Launch) (Z : State) (a0 : Array Value) (hw : ∀ d ∈ tables_1, d.before a0 Z = true) (ws : List Jvm.Cond) (o0_ : Addr) (x0_ : Int32) (ko0_ : ClassId) (h0 : Heap) (n0 : Nat) (O0 : Old Z n0 h0) (P0 : Arv Z h0 o0_ ko0_ .byte (8 : Int32) [(.int (0 : Int32)), (.int (0 : Int32)), (.int (0 : Int32)), (.int (0 : Int32)), (.int (0 : Int32)), (.int (0 : Int32)), (.int (0 : Int32)), (.int (0 : Int32))] (.int (0 : Int32))) (P1 : Exa Z h0 o0_ "[B") (P2 : Sta Z Z.heap "java/lang/StringUTF16" "$assertionsDisabled" "Z" (.int (1 : Int32))) (P3 : Sta Z Z.heap "java/lang/StringUTF16" "HI_BYTE_SHIFT" "I" (.int (0 : Int32))) (P4 : n0 ≤ o0_) (P5 : Sta Z Z.heap "java/lang/StringUTF16" "LO_BYTE_SHIFT" "I" (.int (8 : Int32))) :
    MetFree l (⟨"java/lang/StringUTF16", "putChar", "([BII)V"⟩ : MethodName) (head1 (Jvm.Cond.code (⟨"java/lang/StringUTF16", "putChar", "([BII)V"⟩ : MethodName) jdk_52_method_4_code 3 none :: ws) ({ frames := 0, cells := 0, slots := 0, locals := 0 } : Room)) (fun a U => a = #[(.ref o0_), (.int (0 : Int32)), (.int x0_)] ∧ Z.Warmed39 U.vm ∧ U.heap = h0) (fun _ _ _ _ _ => True) (fun _ U o U' => ∃ v L, o = .returned v ∧ QputChar43 Z o0_ x0_ ko0_ h0 n0 v U'.heap L ∧ FrameEnd U o U' L ({ frames := 0, cells := 0, slots := 0, locals := 0 } : Room).cells ({ frames := 0, cells := 0, slots := 0, locals := 0 } : Room).slots) := by
  refine MetFree.of_bodySF (plainFor_of_name pn_0) hisR ?_
  intro p e s m args below meth c s₁ Bd hml0 hP hK
  obtain ⟨rfl, hZ, hh⟩ := hP
  have hx := Bd.exec
  have hby := Bd.bytes
  have hml : c.maxLocals = 3 := hml0
  have hown : s.vm.findClass "java/lang/StringUTF16" = some m.cls := findClass_of_methodNamed Bd.named
  have hnm := (name_of_methodNamed Bd.named Bd.method).1
  have X0 : Stand p l e ({ frames := 0, cells := 0, slots := 0, locals := 0 } : Room) s m #[(.ref o0_), (.int (0 : Int32)), (.int x0_)] below meth c s₁ [] 0 0 := Stand.of_body Bd
  have e0 : s₁.heap = h0 := by rw [← hh, Bd.state]; rfl
  have N0 := Fr.nil n0
  obtain ⟨G, pre0, hG⟩ : ∃ G : State → Prop, (∀ t, own_S p e below m s₁ 0 #[lvR o0_, lvI (0 : Int32), lvI x0_] [] t → G t) ∧ (∀ t, G t → Steps p.tables e below (s₁.setTop (entryFrame m #[(.ref o0_), (.int (0 : Int32)), (.int x0_)] 3)) t) := ⟨fun t => Steps p.tables e below (s₁.setTop (entryFrame m #[(.ref o0_), (.int (0 : Int32)), (.int x0_)] 3)) t, fun t k => castTop (efputChar43 m o0_ x0_) k, fun _ k => k⟩
  have K0 : Keep h0 h0 [o0_] := Keep.refl _ _
  obtain ⟨T1, X1, e1, st1⟩ := getS2 X0 hx hZ hown (host := "") (Or.inl (own_w hw 59 rfl)) Via.refl e0 (P2.ext O0.2) (g := (mkF m 0 #[lvR o0_, lvI (0 : Int32), lvI x0_] [])) rfl (hb hby d6_0)
  obtain ⟨T2, X2, e2, st2⟩ := getS2 X1 hx hZ hown (host := "") (Or.inl (own_w hw 60 rfl)) Via.refl e1 (P3.ext O0.2) (g := (mkF m 38 #[lvR o0_, lvI (1 : Int32), lvI x0_] [(.int x0_), (.int (0 : Int32)), (.ref o0_)])) rfl (hb hby d6_38)
  obtain ⟨c3, r3, q3, s3, z3, y3, G3⟩ := id P0
  have hin3 : ¬ ((0 : Int32) < 0 ∨ c3.slots.size ≤ ((0 : Int32)).toNatClampNeg) := inb_of s3 ⟨by decide, by decide⟩
  obtain ⟨T3, h3, X3, e3, W3, st3⟩ := stB X2 hx hZ e2 r3 (j := (0 : Int32)) hin3 (g := (mkF m 43 #[lvR o0_, lvI (1 : Int32), lvI x0_] [(.int ((x0_ >>> ((0 : Int32) &&& 31)).toInt8.toInt32)), (.int (0 : Int32)), (.ref o0_)])) rfl rfl (hb hby d6_43)
  have N4 := Fr.snoc X3 N0 P4
  have f5 : Arv Z h3 o0_ ko0_ .byte (8 : Int32) [(.int (((x0_ >>> ((0 : Int32) &&& 31)).toInt8.toInt32).toInt8.toInt32)), (.int (0 : Int32)), (.int (0 : Int32)), (.int (0 : Int32)), (.int (0 : Int32)), (.int (0 : Int32)), (.int (0 : Int32)), (.int (0 : Int32))] (.int (0 : Int32)) := Arv.set r3 q3 s3 z3 y3 G3 (fits_nar_byte _) W3 0 rfl (Nat.le_of_ble_eq_true rfl)
  have f6 : Arv Z h3 o0_ ko0_ .byte (8 : Int32) [(.int ((x0_ >>> ((0 : Int32) &&& 31)).toInt8.toInt32)), (.int (0 : Int32)), (.int (0 : Int32)), (.int (0 : Int32)), (.int (0 : Int32)), (.int (0 : Int32)), (.int (0 : Int32)), (.int (0 : Int32))] (.int (0 : Int32)) := by have q := f5; rw [own_i2b2] at q; exact q
  have f7 : Old Z n0 h3 := O0.wr W3 P4
  obtain ⟨T8, X8, e8, st8⟩ := getS2 X3 hx hZ hown (host := "") (Or.inl (own_w hw 61 rfl)) Via.refl e3 (P5.ext f7.2) (g := (mkF m 47 #[lvR o0_, lvI (1 : Int32), lvI x0_] [(.int x0_), (.int (1 : Int32)), (.ref o0_)])) rfl (hb hby d6_47)
  obtain ⟨c9, r9, q9, s9, z9, y9, G9⟩ := id f6
  have hin9 : ¬ ((1 : Int32) < 0 ∨ c9.slots.size ≤ ((1 : Int32)).toNatClampNeg) := inb_of s9 ⟨by decide, by decide⟩
  obtain ⟨T9, h9, X9, e9, W9, st9⟩ := stB X8 hx hZ e8 r9 (j := (1 : Int32)) hin9 (g := (mkF m 52 #[lvR o0_, lvI (1 : Int32), lvI x0_] [(.int ((x0_ >>> ((8 : Int32) &&& 31)).toInt8.toInt32)), (.int (1 : Int32)), (.ref o0_)])) rfl rfl (hb hby d6_52)
  have N10 := Fr.snoc X9 N4 P4
  have f11 : Arv Z h9 o0_ ko0_ .byte (8 : Int32) [(.int ((x0_ >>> ((0 : Int32) &&& 31)).toInt8.toInt32)), (.int (((x0_ >>> ((8 : Int32) &&& 31)).toInt8.toInt32).toInt8.toInt32)), (.int (0 : Int32)), (.int (0 : Int32)), (.int (0 : Int32)), (.int (0 : Int32)), (.int (0 : Int32)), (.int (0 : Int32))] (.int (0 : Int32)) := Arv.set r9 q9 s9 z9 y9 G9 (fits_nar_byte _) W9 1 rfl (Nat.le_of_ble_eq_true rfl)
  have f12 : Arv Z h9 o0_ ko0_ .byte (8 : Int32) [(.int ((x0_ >>> ((0 : Int32) &&& 31)).toInt8.toInt32)), (.int ((x0_ >>> ((8 : Int32) &&& 31)).toInt8.toInt32)), (.int (0 : Int32)), (.int (0 : Int32)), (.int (0 : Int32)), (.int (0 : Int32)), (.int (0 : Int32)), (.int (0 : Int32))] (.int (0 : Int32)) := by have q := f11; rw [own_i2b2] at q; exact q
  have pre13 : ∀ t, own_S p e below m T9 53 #[lvR o0_, lvI (1 : Int32), lvI x0_] [] t → G t := by
    intro t kt
    refine pre0 t ?_
    show own_S p e below m s₁ 0 #[lvR o0_, lvI (0 : Int32), lvI x0_] [] _
    refine st1 _ ?_
    show own_S p e below m T1 3 #[lvR o0_, lvI (0 : Int32), lvI x0_] [(.int (1 : Int32))] _
    refine XS.ifYes X1.here hx rfl (pc0 := 3) (pc' := 28) rfl (hb hby d6_3) rfl ((if0 _ _).trans (feq (by decide : ¬ ((1 : Int32) = (0 : Int32)))).2) (by decide) (by decide) ?_
    refine XS.iloadN X1.here hx rfl (hb hby d6_28) rfl ?_
    refine XS.iconst X1.here hx rfl (hb hby d6_29) ?_
    show own_S p e below m T1 30 #[lvR o0_, lvI (0 : Int32), lvI x0_] [(.int (1 : Int32)), (.int (0 : Int32))] _
    refine XS.ishl X1.here hx rfl (hb hby d6_30) rfl ?_
    refine XS.istoreN X1.here hx rfl (hb hby d6_31) rfl (l' := #[lvR o0_, lvI (0 : Int32), lvI x0_]) rfl ?_
    refine XS.aloadN X1.here hx rfl (hb hby d6_32) rfl rfl ?_
    refine XS.iloadN X1.here hx rfl (hb hby d6_33) rfl ?_
    refine XS.iinc X1.here hx rfl (hb hby d6_34) rfl (l' := #[lvR o0_, lvI (1 : Int32), lvI x0_]) rfl ?_
    refine XS.iloadN X1.here hx rfl (hb hby d6_37) rfl ?_
    show own_S p e below m T1 38 #[lvR o0_, lvI (1 : Int32), lvI x0_] [(.int x0_), (.int (0 : Int32)), (.ref o0_)] _
    refine st2 _ ?_
    show own_S p e below m T2 41 #[lvR o0_, lvI (1 : Int32), lvI x0_] [(.int (0 : Int32)), (.int x0_), (.int (0 : Int32)), (.ref o0_)] _
    refine XS.ishr X2.here hx rfl (hb hby d6_41) rfl ?_
    show own_S p e below m T2 42 #[lvR o0_, lvI (1 : Int32), lvI x0_] [(.int (x0_ >>> ((0 : Int32) &&& 31))), (.int (0 : Int32)), (.ref o0_)] _
    refine XS.i2b X2.here hx rfl (hb hby d6_42) rfl ?_
    show own_S p e below m T2 43 #[lvR o0_, lvI (1 : Int32), lvI x0_] [(.int ((x0_ >>> ((0 : Int32) &&& 31)).toInt8.toInt32)), (.int (0 : Int32)), (.ref o0_)] _
    refine st3 _ ?_
    refine XS.aloadN X3.here hx rfl (hb hby d6_44) rfl rfl ?_
    refine XS.iloadN X3.here hx rfl (hb hby d6_45) rfl ?_
    refine XS.iloadN X3.here hx rfl (hb hby d6_46) rfl ?_
    show own_S p e below m T3 47 #[lvR o0_, lvI (1 : Int32), lvI x0_] [(.int x0_), (.int (1 : Int32)), (.ref o0_)] _
    refine st8 _ ?_
    show own_S p e below m T8 50 #[lvR o0_, lvI (1 : Int32), lvI x0_] [(.int (8 : Int32)), (.int x0_), (.int (1 : Int32)), (.ref o0_)] _
    refine XS.ishr X8.here hx rfl (hb hby d6_50) rfl ?_
    show own_S p e below m T8 51 #[lvR o0_, lvI (1 : Int32), lvI x0_] [(.int (x0_ >>> ((8 : Int32) &&& 31))), (.int (1 : Int32)), (.ref o0_)] _
    refine XS.i2b X8.here hx rfl (hb hby d6_51) rfl ?_
    show own_S p e below m T8 52 #[lvR o0_, lvI (1 : Int32), lvI x0_] [(.int ((x0_ >>> ((8 : Int32) &&& 31)).toInt8.toInt32)), (.int (1 : Int32)), (.ref o0_)] _
    refine st9 _ ?_
    exact kt
  have f15 : Keep h0 h3 [o0_] := K0.wr W3 (Or.inl (List.mem_of_getElem? (i := 0) rfl))
  have f16 : Keep h0 h9 [o0_] := f15.wr W9 (Or.inl (List.mem_of_getElem? (i := 0) rfl))
  have f17 : Exa Z h3 o0_ "[B" := P1.wr W3
  have f18 : Exa Z h9 o0_ "[B" := f17.wr W9
  obtain ⟨fs, hr, hrun, hended, hW, hsame⟩ := X9.leave (v := none) (fun _ => rfl)
  refine ⟨_, _, hG _ (pre13 _ (X9.returnOut hx Bd.returns (hb hby d6_53) hr)), hrun, hended, _, _, rfl, ?_, ⟨_, rfl⟩, hW, hsame.mono (by decide) (by decide)⟩
  show QputChar43 Z o0_ x0_ ko0_ h0 n0 _ T9.heap _
  rw [e9]
  exact ⟨rfl, N10, f16, f12, f18⟩
theorem efputChar44 (m : MethodId) (o0_ : Addr) (x0_ : Int32) : entryFrame m #[(.ref o0_), (.int (1 : Int32)), (.int x0_)] 3 = mkF m 0 #[lvR o0_, lvI (1 : Int32), lvI x0_] [] := by first | (simp [entryFrame, mkF, argsToLocals, Value.category]; done) | rfl
def QputChar44 (Z : State) (o0_ : Addr) (x0_ : Int32) (ko0_ : ClassId) (x1_ : Int32) (x2_ : Int32) (h0 : Heap) (n0 : Nat) (v : Option Value) (h : Heap) (L : List Loc) : Prop := v = none ∧ Fr n0 L ∧ Keep h0 h [o0_] ∧ Arv Z h o0_ ko0_ .byte (8 : Int32) [(.int x1_), (.int x2_), (.int ((x0_ >>> ((0 : Int32) &&& 31)).toInt8.toInt32)), (.int ((x0_ >>> ((8 : Int32) &&& 31)).toInt8.toInt32)), (.int (0 : Int32)), (.int (0 : Int32)), (.int (0 : Int32)), (.int (0 : Int32))] (.int (0 : Int32)) ∧ Exa Z h o0_ "[B"
set_option maxRecDepth 65536 in
set_option maxHeartbeats 40000000 in
theorem rmputChar44 (l : Launch) (Z : State) (a0 : Array Value) (hw : ∀ d ∈ tables_1, d.before a0 Z = true) (ws : List Jvm.Cond) (o0_ : Addr) (x0_ : Int32) (ko0_ : ClassId) (x1_ : Int32) (x2_ : Int32) (h0 : Heap) (n0 : Nat) (O0 : Old Z n0 h0) (P0 : Arv Z h0 o0_ ko0_ .byte (8 : Int32) [(.int x1_), (.int x2_), (.int (0 : Int32)), (.int (0 : Int32)), (.int (0 : Int32)), (.int (0 : Int32)), (.int (0 : Int32)), (.int (0 : Int32))] (.int (0 : Int32))) (P1 : Exa Z h0 o0_ "[B") (P2 : Sta Z Z.heap "java/lang/StringUTF16" "$assertionsDisabled" "Z" (.int (1 : Int32))) (P3 : Sta Z Z.heap "java/lang/StringUTF16" "HI_BYTE_SHIFT" "I" (.int (0 : Int32))) (P4 : n0 ≤ o0_) (P5 : Sta Z Z.heap "java/lang/StringUTF16" "LO_BYTE_SHIFT" "I" (.int (8 : Int32))) :
    MetFree l (⟨"java/lang/StringUTF16", "putChar", "([BII)V"⟩ : MethodName) (head1 (Jvm.Cond.code (⟨"java/lang/StringUTF16", "putChar", "([BII)V"⟩ : MethodName) jdk_52_method_4_code 3 none :: ws) ({ frames := 0, cells := 0, slots := 0, locals := 0 } : Room)) (fun a U => a = #[(.ref o0_), (.int (1 : Int32)), (.int x0_)] ∧ Z.Warmed39 U.vm ∧ U.heap = h0) (fun _ _ _ _ _ => True) (fun _ U o U' => ∃ v L, o = .returned v ∧ QputChar44 Z o0_ x0_ ko0_ x1_ x2_ h0 n0 v U'.heap L ∧ FrameEnd U o U' L ({ frames := 0, cells := 0, slots := 0, locals := 0 } : Room).cells ({ frames := 0, cells := 0, slots := 0, locals := 0 } : Room).slots) := by
  refine MetFree.of_bodySF (plainFor_of_name pn_0) hisR ?_
  intro p e s m args below meth c s₁ Bd hml0 hP hK
  obtain ⟨rfl, hZ, hh⟩ := hP
  have hx := Bd.exec
  have hby := Bd.bytes
  have hml : c.maxLocals = 3 := hml0
  have hown : s.vm.findClass "java/lang/StringUTF16" = some m.cls := findClass_of_methodNamed Bd.named
  have hnm := (name_of_methodNamed Bd.named Bd.method).1
  have X0 : Stand p l e ({ frames := 0, cells := 0, slots := 0, locals := 0 } : Room) s m #[(.ref o0_), (.int (1 : Int32)), (.int x0_)] below meth c s₁ [] 0 0 := Stand.of_body Bd
  have e0 : s₁.heap = h0 := by rw [← hh, Bd.state]; rfl
  have N0 := Fr.nil n0
  obtain ⟨G, pre0, hG⟩ : ∃ G : State → Prop, (∀ t, own_S p e below m s₁ 0 #[lvR o0_, lvI (1 : Int32), lvI x0_] [] t → G t) ∧ (∀ t, G t → Steps p.tables e below (s₁.setTop (entryFrame m #[(.ref o0_), (.int (1 : Int32)), (.int x0_)] 3)) t) := ⟨fun t => Steps p.tables e below (s₁.setTop (entryFrame m #[(.ref o0_), (.int (1 : Int32)), (.int x0_)] 3)) t, fun t k => castTop (efputChar44 m o0_ x0_) k, fun _ k => k⟩
  have K0 : Keep h0 h0 [o0_] := Keep.refl _ _
  obtain ⟨T1, X1, e1, st1⟩ := getS2 X0 hx hZ hown (host := "") (Or.inl (own_w hw 59 rfl)) Via.refl e0 (P2.ext O0.2) (g := (mkF m 0 #[lvR o0_, lvI (1 : Int32), lvI x0_] [])) rfl (hb hby d6_0)
  obtain ⟨T2, X2, e2, st2⟩ := getS2 X1 hx hZ hown (host := "") (Or.inl (own_w hw 60 rfl)) Via.refl e1 (P3.ext O0.2) (g := (mkF m 38 #[lvR o0_, lvI (3 : Int32), lvI x0_] [(.int x0_), (.int (2 : Int32)), (.ref o0_)])) rfl (hb hby d6_38)
  obtain ⟨c3, r3, q3, s3, z3, y3, G3⟩ := id P0
  have hin3 : ¬ ((2 : Int32) < 0 ∨ c3.slots.size ≤ ((2 : Int32)).toNatClampNeg) := inb_of s3 ⟨by decide, by decide⟩
  obtain ⟨T3, h3, X3, e3, W3, st3⟩ := stB X2 hx hZ e2 r3 (j := (2 : Int32)) hin3 (g := (mkF m 43 #[lvR o0_, lvI (3 : Int32), lvI x0_] [(.int ((x0_ >>> ((0 : Int32) &&& 31)).toInt8.toInt32)), (.int (2 : Int32)), (.ref o0_)])) rfl rfl (hb hby d6_43)
  have N4 := Fr.snoc X3 N0 P4
  have f5 : Arv Z h3 o0_ ko0_ .byte (8 : Int32) [(.int x1_), (.int x2_), (.int (((x0_ >>> ((0 : Int32) &&& 31)).toInt8.toInt32).toInt8.toInt32)), (.int (0 : Int32)), (.int (0 : Int32)), (.int (0 : Int32)), (.int (0 : Int32)), (.int (0 : Int32))] (.int (0 : Int32)) := Arv.set r3 q3 s3 z3 y3 G3 (fits_nar_byte _) W3 2 rfl (Nat.le_of_ble_eq_true rfl)
  have f6 : Arv Z h3 o0_ ko0_ .byte (8 : Int32) [(.int x1_), (.int x2_), (.int ((x0_ >>> ((0 : Int32) &&& 31)).toInt8.toInt32)), (.int (0 : Int32)), (.int (0 : Int32)), (.int (0 : Int32)), (.int (0 : Int32)), (.int (0 : Int32))] (.int (0 : Int32)) := by have q := f5; rw [own_i2b2] at q; exact q
  have f7 : Old Z n0 h3 := O0.wr W3 P4
  obtain ⟨T8, X8, e8, st8⟩ := getS2 X3 hx hZ hown (host := "") (Or.inl (own_w hw 61 rfl)) Via.refl e3 (P5.ext f7.2) (g := (mkF m 47 #[lvR o0_, lvI (3 : Int32), lvI x0_] [(.int x0_), (.int (3 : Int32)), (.ref o0_)])) rfl (hb hby d6_47)
  obtain ⟨c9, r9, q9, s9, z9, y9, G9⟩ := id f6
  have hin9 : ¬ ((3 : Int32) < 0 ∨ c9.slots.size ≤ ((3 : Int32)).toNatClampNeg) := inb_of s9 ⟨by decide, by decide⟩
  obtain ⟨T9, h9, X9, e9, W9, st9⟩ := stB X8 hx hZ e8 r9 (j := (3 : Int32)) hin9 (g := (mkF m 52 #[lvR o0_, lvI (3 : Int32), lvI x0_] [(.int ((x0_ >>> ((8 : Int32) &&& 31)).toInt8.toInt32)), (.int (3 : Int32)), (.ref o0_)])) rfl rfl (hb hby d6_52)
  have N10 := Fr.snoc X9 N4 P4
  have f11 : Arv Z h9 o0_ ko0_ .byte (8 : Int32) [(.int x1_), (.int x2_), (.int ((x0_ >>> ((0 : Int32) &&& 31)).toInt8.toInt32)), (.int (((x0_ >>> ((8 : Int32) &&& 31)).toInt8.toInt32).toInt8.toInt32)), (.int (0 : Int32)), (.int (0 : Int32)), (.int (0 : Int32)), (.int (0 : Int32))] (.int (0 : Int32)) := Arv.set r9 q9 s9 z9 y9 G9 (fits_nar_byte _) W9 3 rfl (Nat.le_of_ble_eq_true rfl)
  have f12 : Arv Z h9 o0_ ko0_ .byte (8 : Int32) [(.int x1_), (.int x2_), (.int ((x0_ >>> ((0 : Int32) &&& 31)).toInt8.toInt32)), (.int ((x0_ >>> ((8 : Int32) &&& 31)).toInt8.toInt32)), (.int (0 : Int32)), (.int (0 : Int32)), (.int (0 : Int32)), (.int (0 : Int32))] (.int (0 : Int32)) := by have q := f11; rw [own_i2b2] at q; exact q
  have pre13 : ∀ t, own_S p e below m T9 53 #[lvR o0_, lvI (3 : Int32), lvI x0_] [] t → G t := by
    intro t kt
    refine pre0 t ?_
    show own_S p e below m s₁ 0 #[lvR o0_, lvI (1 : Int32), lvI x0_] [] _
    refine st1 _ ?_
    show own_S p e below m T1 3 #[lvR o0_, lvI (1 : Int32), lvI x0_] [(.int (1 : Int32))] _
    refine XS.ifYes X1.here hx rfl (pc0 := 3) (pc' := 28) rfl (hb hby d6_3) rfl ((if0 _ _).trans (feq (by decide : ¬ ((1 : Int32) = (0 : Int32)))).2) (by decide) (by decide) ?_
    refine XS.iloadN X1.here hx rfl (hb hby d6_28) rfl ?_
    refine XS.iconst X1.here hx rfl (hb hby d6_29) ?_
    show own_S p e below m T1 30 #[lvR o0_, lvI (1 : Int32), lvI x0_] [(.int (1 : Int32)), (.int (1 : Int32))] _
    refine XS.ishl X1.here hx rfl (hb hby d6_30) rfl ?_
    refine XS.istoreN X1.here hx rfl (hb hby d6_31) rfl (l' := #[lvR o0_, lvI (2 : Int32), lvI x0_]) rfl ?_
    refine XS.aloadN X1.here hx rfl (hb hby d6_32) rfl rfl ?_
    refine XS.iloadN X1.here hx rfl (hb hby d6_33) rfl ?_
    refine XS.iinc X1.here hx rfl (hb hby d6_34) rfl (l' := #[lvR o0_, lvI (3 : Int32), lvI x0_]) rfl ?_
    refine XS.iloadN X1.here hx rfl (hb hby d6_37) rfl ?_
    show own_S p e below m T1 38 #[lvR o0_, lvI (3 : Int32), lvI x0_] [(.int x0_), (.int (2 : Int32)), (.ref o0_)] _
    refine st2 _ ?_
    show own_S p e below m T2 41 #[lvR o0_, lvI (3 : Int32), lvI x0_] [(.int (0 : Int32)), (.int x0_), (.int (2 : Int32)), (.ref o0_)] _
    refine XS.ishr X2.here hx rfl (hb hby d6_41) rfl ?_
    show own_S p e below m T2 42 #[lvR o0_, lvI (3 : Int32), lvI x0_] [(.int (x0_ >>> ((0 : Int32) &&& 31))), (.int (2 : Int32)), (.ref o0_)] _
    refine XS.i2b X2.here hx rfl (hb hby d6_42) rfl ?_
    show own_S p e below m T2 43 #[lvR o0_, lvI (3 : Int32), lvI x0_] [(.int ((x0_ >>> ((0 : Int32) &&& 31)).toInt8.toInt32)), (.int (2 : Int32)), (.ref o0_)] _
    refine st3 _ ?_
    refine XS.aloadN X3.here hx rfl (hb hby d6_44) rfl rfl ?_
    refine XS.iloadN X3.here hx rfl (hb hby d6_45) rfl ?_
    refine XS.iloadN X3.here hx rfl (hb hby d6_46) rfl ?_
    show own_S p e below m T3 47 #[lvR o0_, lvI (3 : Int32), lvI x0_] [(.int x0_), (.int (3 : Int32)), (.ref o0_)] _
    refine st8 _ ?_
    show own_S p e below m T8 50 #[lvR o0_, lvI (3 : Int32), lvI x0_] [(.int (8 : Int32)), (.int x0_), (.int (3 : Int32)), (.ref o0_)] _
    refine XS.ishr X8.here hx rfl (hb hby d6_50) rfl ?_
    show own_S p e below m T8 51 #[lvR o0_, lvI (3 : Int32), lvI x0_] [(.int (x0_ >>> ((8 : Int32) &&& 31))), (.int (3 : Int32)), (.ref o0_)] _
    refine XS.i2b X8.here hx rfl (hb hby d6_51) rfl ?_
    show own_S p e below m T8 52 #[lvR o0_, lvI (3 : Int32), lvI x0_] [(.int ((x0_ >>> ((8 : Int32) &&& 31)).toInt8.toInt32)), (.int (3 : Int32)), (.ref o0_)] _
    refine st9 _ ?_
    exact kt
  have f15 : Keep h0 h3 [o0_] := K0.wr W3 (Or.inl (List.mem_of_getElem? (i := 0) rfl))
  have f16 : Keep h0 h9 [o0_] := f15.wr W9 (Or.inl (List.mem_of_getElem? (i := 0) rfl))
  have f17 : Exa Z h3 o0_ "[B" := P1.wr W3
  have f18 : Exa Z h9 o0_ "[B" := f17.wr W9
  obtain ⟨fs, hr, hrun, hended, hW, hsame⟩ := X9.leave (v := none) (fun _ => rfl)
  refine ⟨_, _, hG _ (pre13 _ (X9.returnOut hx Bd.returns (hb hby d6_53) hr)), hrun, hended, _, _, rfl, ?_, ⟨_, rfl⟩, hW, hsame.mono (by decide) (by decide)⟩
  show QputChar44 Z o0_ x0_ ko0_ x1_ x2_ h0 n0 _ T9.heap _
  rw [e9]
  exact ⟨rfl, N10, f16, f12, f18⟩
theorem efputChar45 (m : MethodId) (o0_ : Addr) (x0_ : Int32) : entryFrame m #[(.ref o0_), (.int (2 : Int32)), (.int x0_)] 3 = mkF m 0 #[lvR o0_, lvI (2 : Int32), lvI x0_] [] := by first | (simp [entryFrame, mkF, argsToLocals, Value.category]; done) | rfl
def QputChar45 (Z : State) (o0_ : Addr) (x0_ : Int32) (ko0_ : ClassId) (x1_ : Int32) (x2_ : Int32) (x3_ : Int32) (x4_ : Int32) (h0 : Heap) (n0 : Nat) (v : Option Value) (h : Heap) (L : List Loc) : Prop := v = none ∧ Fr n0 L ∧ Keep h0 h [o0_] ∧ Arv Z h o0_ ko0_ .byte (8 : Int32) [(.int x1_), (.int x2_), (.int x3_), (.int x4_), (.int ((x0_ >>> ((0 : Int32) &&& 31)).toInt8.toInt32)), (.int ((x0_ >>> ((8 : Int32) &&& 31)).toInt8.toInt32)), (.int (0 : Int32)), (.int (0 : Int32))] (.int (0 : Int32)) ∧ Exa Z h o0_ "[B"
set_option maxRecDepth 65536 in
set_option maxHeartbeats 40000000 in
theorem rmputChar45 (l : Launch) (Z : State) (a0 : Array Value) (hw : ∀ d ∈ tables_1, d.before a0 Z = true) (ws : List Jvm.Cond) (o0_ : Addr) (x0_ : Int32) (ko0_ : ClassId) (x1_ : Int32) (x2_ : Int32) (x3_ : Int32) (x4_ : Int32) (h0 : Heap) (n0 : Nat) (O0 : Old Z n0 h0) (P0 : Arv Z h0 o0_ ko0_ .byte (8 : Int32) [(.int x1_), (.int x2_), (.int x3_), (.int x4_), (.int (0 : Int32)), (.int (0 : Int32)), (.int (0 : Int32)), (.int (0 : Int32))] (.int (0 : Int32))) (P1 : Exa Z h0 o0_ "[B") (P2 : Sta Z Z.heap "java/lang/StringUTF16" "$assertionsDisabled" "Z" (.int (1 : Int32))) (P3 : Sta Z Z.heap "java/lang/StringUTF16" "HI_BYTE_SHIFT" "I" (.int (0 : Int32))) (P4 : n0 ≤ o0_) (P5 : Sta Z Z.heap "java/lang/StringUTF16" "LO_BYTE_SHIFT" "I" (.int (8 : Int32))) :
    MetFree l (⟨"java/lang/StringUTF16", "putChar", "([BII)V"⟩ : MethodName) (head1 (Jvm.Cond.code (⟨"java/lang/StringUTF16", "putChar", "([BII)V"⟩ : MethodName) jdk_52_method_4_code 3 none :: ws) ({ frames := 0, cells := 0, slots := 0, locals := 0 } : Room)) (fun a U => a = #[(.ref o0_), (.int (2 : Int32)), (.int x0_)] ∧ Z.Warmed39 U.vm ∧ U.heap = h0) (fun _ _ _ _ _ => True) (fun _ U o U' => ∃ v L, o = .returned v ∧ QputChar45 Z o0_ x0_ ko0_ x1_ x2_ x3_ x4_ h0 n0 v U'.heap L ∧ FrameEnd U o U' L ({ frames := 0, cells := 0, slots := 0, locals := 0 } : Room).cells ({ frames := 0, cells := 0, slots := 0, locals := 0 } : Room).slots) := by
  refine MetFree.of_bodySF (plainFor_of_name pn_0) hisR ?_
  intro p e s m args below meth c s₁ Bd hml0 hP hK
  obtain ⟨rfl, hZ, hh⟩ := hP
  have hx := Bd.exec
  have hby := Bd.bytes
  have hml : c.maxLocals = 3 := hml0
  have hown : s.vm.findClass "java/lang/StringUTF16" = some m.cls := findClass_of_methodNamed Bd.named
  have hnm := (name_of_methodNamed Bd.named Bd.method).1
  have X0 : Stand p l e ({ frames := 0, cells := 0, slots := 0, locals := 0 } : Room) s m #[(.ref o0_), (.int (2 : Int32)), (.int x0_)] below meth c s₁ [] 0 0 := Stand.of_body Bd
  have e0 : s₁.heap = h0 := by rw [← hh, Bd.state]; rfl
  have N0 := Fr.nil n0
  obtain ⟨G, pre0, hG⟩ : ∃ G : State → Prop, (∀ t, own_S p e below m s₁ 0 #[lvR o0_, lvI (2 : Int32), lvI x0_] [] t → G t) ∧ (∀ t, G t → Steps p.tables e below (s₁.setTop (entryFrame m #[(.ref o0_), (.int (2 : Int32)), (.int x0_)] 3)) t) := ⟨fun t => Steps p.tables e below (s₁.setTop (entryFrame m #[(.ref o0_), (.int (2 : Int32)), (.int x0_)] 3)) t, fun t k => castTop (efputChar45 m o0_ x0_) k, fun _ k => k⟩
  have K0 : Keep h0 h0 [o0_] := Keep.refl _ _
  obtain ⟨T1, X1, e1, st1⟩ := getS2 X0 hx hZ hown (host := "") (Or.inl (own_w hw 59 rfl)) Via.refl e0 (P2.ext O0.2) (g := (mkF m 0 #[lvR o0_, lvI (2 : Int32), lvI x0_] [])) rfl (hb hby d6_0)
  obtain ⟨T2, X2, e2, st2⟩ := getS2 X1 hx hZ hown (host := "") (Or.inl (own_w hw 60 rfl)) Via.refl e1 (P3.ext O0.2) (g := (mkF m 38 #[lvR o0_, lvI (5 : Int32), lvI x0_] [(.int x0_), (.int (4 : Int32)), (.ref o0_)])) rfl (hb hby d6_38)
  obtain ⟨c3, r3, q3, s3, z3, y3, G3⟩ := id P0
  have hin3 : ¬ ((4 : Int32) < 0 ∨ c3.slots.size ≤ ((4 : Int32)).toNatClampNeg) := inb_of s3 ⟨by decide, by decide⟩
  obtain ⟨T3, h3, X3, e3, W3, st3⟩ := stB X2 hx hZ e2 r3 (j := (4 : Int32)) hin3 (g := (mkF m 43 #[lvR o0_, lvI (5 : Int32), lvI x0_] [(.int ((x0_ >>> ((0 : Int32) &&& 31)).toInt8.toInt32)), (.int (4 : Int32)), (.ref o0_)])) rfl rfl (hb hby d6_43)
  have N4 := Fr.snoc X3 N0 P4
  have f5 : Arv Z h3 o0_ ko0_ .byte (8 : Int32) [(.int x1_), (.int x2_), (.int x3_), (.int x4_), (.int (((x0_ >>> ((0 : Int32) &&& 31)).toInt8.toInt32).toInt8.toInt32)), (.int (0 : Int32)), (.int (0 : Int32)), (.int (0 : Int32))] (.int (0 : Int32)) := Arv.set r3 q3 s3 z3 y3 G3 (fits_nar_byte _) W3 4 rfl (Nat.le_of_ble_eq_true rfl)
  have f6 : Arv Z h3 o0_ ko0_ .byte (8 : Int32) [(.int x1_), (.int x2_), (.int x3_), (.int x4_), (.int ((x0_ >>> ((0 : Int32) &&& 31)).toInt8.toInt32)), (.int (0 : Int32)), (.int (0 : Int32)), (.int (0 : Int32))] (.int (0 : Int32)) := by have q := f5; rw [own_i2b2] at q; exact q
  have f7 : Old Z n0 h3 := O0.wr W3 P4
  obtain ⟨T8, X8, e8, st8⟩ := getS2 X3 hx hZ hown (host := "") (Or.inl (own_w hw 61 rfl)) Via.refl e3 (P5.ext f7.2) (g := (mkF m 47 #[lvR o0_, lvI (5 : Int32), lvI x0_] [(.int x0_), (.int (5 : Int32)), (.ref o0_)])) rfl (hb hby d6_47)
  obtain ⟨c9, r9, q9, s9, z9, y9, G9⟩ := id f6
  have hin9 : ¬ ((5 : Int32) < 0 ∨ c9.slots.size ≤ ((5 : Int32)).toNatClampNeg) := inb_of s9 ⟨by decide, by decide⟩
  obtain ⟨T9, h9, X9, e9, W9, st9⟩ := stB X8 hx hZ e8 r9 (j := (5 : Int32)) hin9 (g := (mkF m 52 #[lvR o0_, lvI (5 : Int32), lvI x0_] [(.int ((x0_ >>> ((8 : Int32) &&& 31)).toInt8.toInt32)), (.int (5 : Int32)), (.ref o0_)])) rfl rfl (hb hby d6_52)
  have N10 := Fr.snoc X9 N4 P4
  have f11 : Arv Z h9 o0_ ko0_ .byte (8 : Int32) [(.int x1_), (.int x2_), (.int x3_), (.int x4_), (.int ((x0_ >>> ((0 : Int32) &&& 31)).toInt8.toInt32)), (.int (((x0_ >>> ((8 : Int32) &&& 31)).toInt8.toInt32).toInt8.toInt32)), (.int (0 : Int32)), (.int (0 : Int32))] (.int (0 : Int32)) := Arv.set r9 q9 s9 z9 y9 G9 (fits_nar_byte _) W9 5 rfl (Nat.le_of_ble_eq_true rfl)
  have f12 : Arv Z h9 o0_ ko0_ .byte (8 : Int32) [(.int x1_), (.int x2_), (.int x3_), (.int x4_), (.int ((x0_ >>> ((0 : Int32) &&& 31)).toInt8.toInt32)), (.int ((x0_ >>> ((8 : Int32) &&& 31)).toInt8.toInt32)), (.int (0 : Int32)), (.int (0 : Int32))] (.int (0 : Int32)) := by have q := f11; rw [own_i2b2] at q; exact q
  have pre13 : ∀ t, own_S p e below m T9 53 #[lvR o0_, lvI (5 : Int32), lvI x0_] [] t → G t := by
    intro t kt
    refine pre0 t ?_
    show own_S p e below m s₁ 0 #[lvR o0_, lvI (2 : Int32), lvI x0_] [] _
    refine st1 _ ?_
    show own_S p e below m T1 3 #[lvR o0_, lvI (2 : Int32), lvI x0_] [(.int (1 : Int32))] _
    refine XS.ifYes X1.here hx rfl (pc0 := 3) (pc' := 28) rfl (hb hby d6_3) rfl ((if0 _ _).trans (feq (by decide : ¬ ((1 : Int32) = (0 : Int32)))).2) (by decide) (by decide) ?_
    refine XS.iloadN X1.here hx rfl (hb hby d6_28) rfl ?_
    refine XS.iconst X1.here hx rfl (hb hby d6_29) ?_
    show own_S p e below m T1 30 #[lvR o0_, lvI (2 : Int32), lvI x0_] [(.int (1 : Int32)), (.int (2 : Int32))] _
    refine XS.ishl X1.here hx rfl (hb hby d6_30) rfl ?_
    refine XS.istoreN X1.here hx rfl (hb hby d6_31) rfl (l' := #[lvR o0_, lvI (4 : Int32), lvI x0_]) rfl ?_
    refine XS.aloadN X1.here hx rfl (hb hby d6_32) rfl rfl ?_
    refine XS.iloadN X1.here hx rfl (hb hby d6_33) rfl ?_
    refine XS.iinc X1.here hx rfl (hb hby d6_34) rfl (l' := #[lvR o0_, lvI (5 : Int32), lvI x0_]) rfl ?_
    refine XS.iloadN X1.here hx rfl (hb hby d6_37) rfl ?_
    show own_S p e below m T1 38 #[lvR o0_, lvI (5 : Int32), lvI x0_] [(.int x0_), (.int (4 : Int32)), (.ref o0_)] _
    refine st2 _ ?_
    show own_S p e below m T2 41 #[lvR o0_, lvI (5 : Int32), lvI x0_] [(.int (0 : Int32)), (.int x0_), (.int (4 : Int32)), (.ref o0_)] _
    refine XS.ishr X2.here hx rfl (hb hby d6_41) rfl ?_
    show own_S p e below m T2 42 #[lvR o0_, lvI (5 : Int32), lvI x0_] [(.int (x0_ >>> ((0 : Int32) &&& 31))), (.int (4 : Int32)), (.ref o0_)] _
    refine XS.i2b X2.here hx rfl (hb hby d6_42) rfl ?_
    show own_S p e below m T2 43 #[lvR o0_, lvI (5 : Int32), lvI x0_] [(.int ((x0_ >>> ((0 : Int32) &&& 31)).toInt8.toInt32)), (.int (4 : Int32)), (.ref o0_)] _
    refine st3 _ ?_
    refine XS.aloadN X3.here hx rfl (hb hby d6_44) rfl rfl ?_
    refine XS.iloadN X3.here hx rfl (hb hby d6_45) rfl ?_
    refine XS.iloadN X3.here hx rfl (hb hby d6_46) rfl ?_
    show own_S p e below m T3 47 #[lvR o0_, lvI (5 : Int32), lvI x0_] [(.int x0_), (.int (5 : Int32)), (.ref o0_)] _
    refine st8 _ ?_
    show own_S p e below m T8 50 #[lvR o0_, lvI (5 : Int32), lvI x0_] [(.int (8 : Int32)), (.int x0_), (.int (5 : Int32)), (.ref o0_)] _
    refine XS.ishr X8.here hx rfl (hb hby d6_50) rfl ?_
    show own_S p e below m T8 51 #[lvR o0_, lvI (5 : Int32), lvI x0_] [(.int (x0_ >>> ((8 : Int32) &&& 31))), (.int (5 : Int32)), (.ref o0_)] _
    refine XS.i2b X8.here hx rfl (hb hby d6_51) rfl ?_
    show own_S p e below m T8 52 #[lvR o0_, lvI (5 : Int32), lvI x0_] [(.int ((x0_ >>> ((8 : Int32) &&& 31)).toInt8.toInt32)), (.int (5 : Int32)), (.ref o0_)] _
    refine st9 _ ?_
    exact kt
  have f15 : Keep h0 h3 [o0_] := K0.wr W3 (Or.inl (List.mem_of_getElem? (i := 0) rfl))
  have f16 : Keep h0 h9 [o0_] := f15.wr W9 (Or.inl (List.mem_of_getElem? (i := 0) rfl))
  have f17 : Exa Z h3 o0_ "[B" := P1.wr W3
  have f18 : Exa Z h9 o0_ "[B" := f17.wr W9
  obtain ⟨fs, hr, hrun, hended, hW, hsame⟩ := X9.leave (v := none) (fun _ => rfl)
  refine ⟨_, _, hG _ (pre13 _ (X9.returnOut hx Bd.returns (hb hby d6_53) hr)), hrun, hended, _, _, rfl, ?_, ⟨_, rfl⟩, hW, hsame.mono (by decide) (by decide)⟩
  show QputChar45 Z o0_ x0_ ko0_ x1_ x2_ x3_ x4_ h0 n0 _ T9.heap _
  rw [e9]
  exact ⟨rfl, N10, f16, f12, f18⟩
theorem efputChar46 (m : MethodId) (o0_ : Addr) (x0_ : Int32) : entryFrame m #[(.ref o0_), (.int (3 : Int32)), (.int x0_)] 3 = mkF m 0 #[lvR o0_, lvI (3 : Int32), lvI x0_] [] := by first | (simp [entryFrame, mkF, argsToLocals, Value.category]; done) | rfl
def QputChar46 (Z : State) (o0_ : Addr) (x0_ : Int32) (ko0_ : ClassId) (x1_ : Int32) (x2_ : Int32) (x3_ : Int32) (x4_ : Int32) (x5_ : Int32) (x6_ : Int32) (h0 : Heap) (n0 : Nat) (v : Option Value) (h : Heap) (L : List Loc) : Prop := v = none ∧ Fr n0 L ∧ Keep h0 h [o0_] ∧ Arv Z h o0_ ko0_ .byte (8 : Int32) [(.int x1_), (.int x2_), (.int x3_), (.int x4_), (.int x5_), (.int x6_), (.int ((x0_ >>> ((0 : Int32) &&& 31)).toInt8.toInt32)), (.int ((x0_ >>> ((8 : Int32) &&& 31)).toInt8.toInt32))] (.int (0 : Int32)) ∧ Exa Z h o0_ "[B"
set_option maxRecDepth 65536 in
set_option maxHeartbeats 40000000 in
theorem rmputChar46 (l : Launch) (Z : State) (a0 : Array Value) (hw : ∀ d ∈ tables_1, d.before a0 Z = true) (ws : List Jvm.Cond) (o0_ : Addr) (x0_ : Int32) (ko0_ : ClassId) (x1_ : Int32) (x2_ : Int32) (x3_ : Int32) (x4_ : Int32) (x5_ : Int32) (x6_ : Int32) (h0 : Heap) (n0 : Nat) (O0 : Old Z n0 h0) (P0 : Arv Z h0 o0_ ko0_ .byte (8 : Int32) [(.int x1_), (.int x2_), (.int x3_), (.int x4_), (.int x5_), (.int x6_), (.int (0 : Int32)), (.int (0 : Int32))] (.int (0 : Int32))) (P1 : Exa Z h0 o0_ "[B") (P2 : Sta Z Z.heap "java/lang/StringUTF16" "$assertionsDisabled" "Z" (.int (1 : Int32))) (P3 : Sta Z Z.heap "java/lang/StringUTF16" "HI_BYTE_SHIFT" "I" (.int (0 : Int32))) (P4 : n0 ≤ o0_) (P5 : Sta Z Z.heap "java/lang/StringUTF16" "LO_BYTE_SHIFT" "I" (.int (8 : Int32))) :
    MetFree l (⟨"java/lang/StringUTF16", "putChar", "([BII)V"⟩ : MethodName) (head1 (Jvm.Cond.code (⟨"java/lang/StringUTF16", "putChar", "([BII)V"⟩ : MethodName) jdk_52_method_4_code 3 none :: ws) ({ frames := 0, cells := 0, slots := 0, locals := 0 } : Room)) (fun a U => a = #[(.ref o0_), (.int (3 : Int32)), (.int x0_)] ∧ Z.Warmed39 U.vm ∧ U.heap = h0) (fun _ _ _ _ _ => True) (fun _ U o U' => ∃ v L, o = .returned v ∧ QputChar46 Z o0_ x0_ ko0_ x1_ x2_ x3_ x4_ x5_ x6_ h0 n0 v U'.heap L ∧ FrameEnd U o U' L ({ frames := 0, cells := 0, slots := 0, locals := 0 } : Room).cells ({ frames := 0, cells := 0, slots := 0, locals := 0 } : Room).slots) := by
  refine MetFree.of_bodySF (plainFor_of_name pn_0) hisR ?_
  intro p e s m args below meth c s₁ Bd hml0 hP hK
  obtain ⟨rfl, hZ, hh⟩ := hP
  have hx := Bd.exec
  have hby := Bd.bytes
  have hml : c.maxLocals = 3 := hml0
  have hown : s.vm.findClass "java/lang/StringUTF16" = some m.cls := findClass_of_methodNamed Bd.named
  have hnm := (name_of_methodNamed Bd.named Bd.method).1
  have X0 : Stand p l e ({ frames := 0, cells := 0, slots := 0, locals := 0 } : Room) s m #[(.ref o0_), (.int (3 : Int32)), (.int x0_)] below meth c s₁ [] 0 0 := Stand.of_body Bd
  have e0 : s₁.heap = h0 := by rw [← hh, Bd.state]; rfl
  have N0 := Fr.nil n0
  obtain ⟨G, pre0, hG⟩ : ∃ G : State → Prop, (∀ t, own_S p e below m s₁ 0 #[lvR o0_, lvI (3 : Int32), lvI x0_] [] t → G t) ∧ (∀ t, G t → Steps p.tables e below (s₁.setTop (entryFrame m #[(.ref o0_), (.int (3 : Int32)), (.int x0_)] 3)) t) := ⟨fun t => Steps p.tables e below (s₁.setTop (entryFrame m #[(.ref o0_), (.int (3 : Int32)), (.int x0_)] 3)) t, fun t k => castTop (efputChar46 m o0_ x0_) k, fun _ k => k⟩
  have K0 : Keep h0 h0 [o0_] := Keep.refl _ _
  obtain ⟨T1, X1, e1, st1⟩ := getS2 X0 hx hZ hown (host := "") (Or.inl (own_w hw 59 rfl)) Via.refl e0 (P2.ext O0.2) (g := (mkF m 0 #[lvR o0_, lvI (3 : Int32), lvI x0_] [])) rfl (hb hby d6_0)
  obtain ⟨T2, X2, e2, st2⟩ := getS2 X1 hx hZ hown (host := "") (Or.inl (own_w hw 60 rfl)) Via.refl e1 (P3.ext O0.2) (g := (mkF m 38 #[lvR o0_, lvI (7 : Int32), lvI x0_] [(.int x0_), (.int (6 : Int32)), (.ref o0_)])) rfl (hb hby d6_38)
  obtain ⟨c3, r3, q3, s3, z3, y3, G3⟩ := id P0
  have hin3 : ¬ ((6 : Int32) < 0 ∨ c3.slots.size ≤ ((6 : Int32)).toNatClampNeg) := inb_of s3 ⟨by decide, by decide⟩
  obtain ⟨T3, h3, X3, e3, W3, st3⟩ := stB X2 hx hZ e2 r3 (j := (6 : Int32)) hin3 (g := (mkF m 43 #[lvR o0_, lvI (7 : Int32), lvI x0_] [(.int ((x0_ >>> ((0 : Int32) &&& 31)).toInt8.toInt32)), (.int (6 : Int32)), (.ref o0_)])) rfl rfl (hb hby d6_43)
  have N4 := Fr.snoc X3 N0 P4
  have f5 : Arv Z h3 o0_ ko0_ .byte (8 : Int32) [(.int x1_), (.int x2_), (.int x3_), (.int x4_), (.int x5_), (.int x6_), (.int (((x0_ >>> ((0 : Int32) &&& 31)).toInt8.toInt32).toInt8.toInt32)), (.int (0 : Int32))] (.int (0 : Int32)) := Arv.set r3 q3 s3 z3 y3 G3 (fits_nar_byte _) W3 6 rfl (Nat.le_of_ble_eq_true rfl)
  have f6 : Arv Z h3 o0_ ko0_ .byte (8 : Int32) [(.int x1_), (.int x2_), (.int x3_), (.int x4_), (.int x5_), (.int x6_), (.int ((x0_ >>> ((0 : Int32) &&& 31)).toInt8.toInt32)), (.int (0 : Int32))] (.int (0 : Int32)) := by have q := f5; rw [own_i2b2] at q; exact q
  have f7 : Old Z n0 h3 := O0.wr W3 P4
  obtain ⟨T8, X8, e8, st8⟩ := getS2 X3 hx hZ hown (host := "") (Or.inl (own_w hw 61 rfl)) Via.refl e3 (P5.ext f7.2) (g := (mkF m 47 #[lvR o0_, lvI (7 : Int32), lvI x0_] [(.int x0_), (.int (7 : Int32)), (.ref o0_)])) rfl (hb hby d6_47)
  obtain ⟨c9, r9, q9, s9, z9, y9, G9⟩ := id f6
  have hin9 : ¬ ((7 : Int32) < 0 ∨ c9.slots.size ≤ ((7 : Int32)).toNatClampNeg) := inb_of s9 ⟨by decide, by decide⟩
  obtain ⟨T9, h9, X9, e9, W9, st9⟩ := stB X8 hx hZ e8 r9 (j := (7 : Int32)) hin9 (g := (mkF m 52 #[lvR o0_, lvI (7 : Int32), lvI x0_] [(.int ((x0_ >>> ((8 : Int32) &&& 31)).toInt8.toInt32)), (.int (7 : Int32)), (.ref o0_)])) rfl rfl (hb hby d6_52)
  have N10 := Fr.snoc X9 N4 P4
  have f11 : Arv Z h9 o0_ ko0_ .byte (8 : Int32) [(.int x1_), (.int x2_), (.int x3_), (.int x4_), (.int x5_), (.int x6_), (.int ((x0_ >>> ((0 : Int32) &&& 31)).toInt8.toInt32)), (.int (((x0_ >>> ((8 : Int32) &&& 31)).toInt8.toInt32).toInt8.toInt32))] (.int (0 : Int32)) := Arv.set r9 q9 s9 z9 y9 G9 (fits_nar_byte _) W9 7 rfl (Nat.le_of_ble_eq_true rfl)
  have f12 : Arv Z h9 o0_ ko0_ .byte (8 : Int32) [(.int x1_), (.int x2_), (.int x3_), (.int x4_), (.int x5_), (.int x6_), (.int ((x0_ >>> ((0 : Int32) &&& 31)).toInt8.toInt32)), (.int ((x0_ >>> ((8 : Int32) &&& 31)).toInt8.toInt32))] (.int (0 : Int32)) := by have q := f11; rw [own_i2b2] at q; exact q
  have pre13 : ∀ t, own_S p e below m T9 53 #[lvR o0_, lvI (7 : Int32), lvI x0_] [] t → G t := by
    intro t kt
    refine pre0 t ?_
    show own_S p e below m s₁ 0 #[lvR o0_, lvI (3 : Int32), lvI x0_] [] _
    refine st1 _ ?_
    show own_S p e below m T1 3 #[lvR o0_, lvI (3 : Int32), lvI x0_] [(.int (1 : Int32))] _
    refine XS.ifYes X1.here hx rfl (pc0 := 3) (pc' := 28) rfl (hb hby d6_3) rfl ((if0 _ _).trans (feq (by decide : ¬ ((1 : Int32) = (0 : Int32)))).2) (by decide) (by decide) ?_
    refine XS.iloadN X1.here hx rfl (hb hby d6_28) rfl ?_
    refine XS.iconst X1.here hx rfl (hb hby d6_29) ?_
    show own_S p e below m T1 30 #[lvR o0_, lvI (3 : Int32), lvI x0_] [(.int (1 : Int32)), (.int (3 : Int32))] _
    refine XS.ishl X1.here hx rfl (hb hby d6_30) rfl ?_
    refine XS.istoreN X1.here hx rfl (hb hby d6_31) rfl (l' := #[lvR o0_, lvI (6 : Int32), lvI x0_]) rfl ?_
    refine XS.aloadN X1.here hx rfl (hb hby d6_32) rfl rfl ?_
    refine XS.iloadN X1.here hx rfl (hb hby d6_33) rfl ?_
    refine XS.iinc X1.here hx rfl (hb hby d6_34) rfl (l' := #[lvR o0_, lvI (7 : Int32), lvI x0_]) rfl ?_
    refine XS.iloadN X1.here hx rfl (hb hby d6_37) rfl ?_
    show own_S p e below m T1 38 #[lvR o0_, lvI (7 : Int32), lvI x0_] [(.int x0_), (.int (6 : Int32)), (.ref o0_)] _
    refine st2 _ ?_
    show own_S p e below m T2 41 #[lvR o0_, lvI (7 : Int32), lvI x0_] [(.int (0 : Int32)), (.int x0_), (.int (6 : Int32)), (.ref o0_)] _
    refine XS.ishr X2.here hx rfl (hb hby d6_41) rfl ?_
    show own_S p e below m T2 42 #[lvR o0_, lvI (7 : Int32), lvI x0_] [(.int (x0_ >>> ((0 : Int32) &&& 31))), (.int (6 : Int32)), (.ref o0_)] _
    refine XS.i2b X2.here hx rfl (hb hby d6_42) rfl ?_
    show own_S p e below m T2 43 #[lvR o0_, lvI (7 : Int32), lvI x0_] [(.int ((x0_ >>> ((0 : Int32) &&& 31)).toInt8.toInt32)), (.int (6 : Int32)), (.ref o0_)] _
    refine st3 _ ?_
    refine XS.aloadN X3.here hx rfl (hb hby d6_44) rfl rfl ?_
    refine XS.iloadN X3.here hx rfl (hb hby d6_45) rfl ?_
    refine XS.iloadN X3.here hx rfl (hb hby d6_46) rfl ?_
    show own_S p e below m T3 47 #[lvR o0_, lvI (7 : Int32), lvI x0_] [(.int x0_), (.int (7 : Int32)), (.ref o0_)] _
    refine st8 _ ?_
    show own_S p e below m T8 50 #[lvR o0_, lvI (7 : Int32), lvI x0_] [(.int (8 : Int32)), (.int x0_), (.int (7 : Int32)), (.ref o0_)] _
    refine XS.ishr X8.here hx rfl (hb hby d6_50) rfl ?_
    show own_S p e below m T8 51 #[lvR o0_, lvI (7 : Int32), lvI x0_] [(.int (x0_ >>> ((8 : Int32) &&& 31))), (.int (7 : Int32)), (.ref o0_)] _
    refine XS.i2b X8.here hx rfl (hb hby d6_51) rfl ?_
    show own_S p e below m T8 52 #[lvR o0_, lvI (7 : Int32), lvI x0_] [(.int ((x0_ >>> ((8 : Int32) &&& 31)).toInt8.toInt32)), (.int (7 : Int32)), (.ref o0_)] _
    refine st9 _ ?_
    exact kt
  have f15 : Keep h0 h3 [o0_] := K0.wr W3 (Or.inl (List.mem_of_getElem? (i := 0) rfl))
  have f16 : Keep h0 h9 [o0_] := f15.wr W9 (Or.inl (List.mem_of_getElem? (i := 0) rfl))
  have f17 : Exa Z h3 o0_ "[B" := P1.wr W3
  have f18 : Exa Z h9 o0_ "[B" := f17.wr W9
  obtain ⟨fs, hr, hrun, hended, hW, hsame⟩ := X9.leave (v := none) (fun _ => rfl)
  refine ⟨_, _, hG _ (pre13 _ (X9.returnOut hx Bd.returns (hb hby d6_53) hr)), hrun, hended, _, _, rfl, ?_, ⟨_, rfl⟩, hW, hsame.mono (by decide) (by decide)⟩
  show QputChar46 Z o0_ x0_ ko0_ x1_ x2_ x3_ x4_ x5_ x6_ h0 n0 _ T9.heap _
  rw [e9]
  exact ⟨rfl, N10, f16, f12, f18⟩
theorem eftoBytes37 (m : MethodId) (o0_ : Addr) : entryFrame m #[(.ref o0_), (.int (0 : Int32)), (.int (4 : Int32))] 5 = mkF m 0 #[lvR o0_, lvI (0 : Int32), lvI (4 : Int32), .unset, .unset] [] := by first | (simp [entryFrame, mkF, argsToLocals, Value.category]; done) | rfl
def QtoBytes37 (Z : State) (o0_ : Addr) (ko0_ : ClassId) (x0_ : Int32) (x1_ : Int32) (x2_ : Int32) (x3_ : Int32) (h0 : Heap) (n0 : Nat) (v : Option Value) (h : Heap) (L : List Loc) : Prop := ∃ k3_1 : ClassId, ∃ nnb3_1 : Addr, v = some (.ref nnb3_1) ∧ Fr n0 L ∧ Keep h0 h [] ∧ h0.size ≤ nnb3_1 ∧ Arv Z h nnb3_1 k3_1 .byte (8 : Int32) [(.int ((x0_ >>> ((0 : Int32) &&& 31)).toInt8.toInt32)), (.int ((x0_ >>> ((8 : Int32) &&& 31)).toInt8.toInt32)), (.int ((x1_ >>> ((0 : Int32) &&& 31)).toInt8.toInt32)), (.int ((x1_ >>> ((8 : Int32) &&& 31)).toInt8.toInt32)), (.int ((x2_ >>> ((0 : Int32) &&& 31)).toInt8.toInt32)), (.int ((x2_ >>> ((8 : Int32) &&& 31)).toInt8.toInt32)), (.int ((x3_ >>> ((0 : Int32) &&& 31)).toInt8.toInt32)), (.int ((x3_ >>> ((8 : Int32) &&& 31)).toInt8.toInt32))] (.int (0 : Int32)) ∧ Exa Z h nnb3_1 "[B"
set_option maxRecDepth 65536 in
set_option maxHeartbeats 40000000 in
theorem rmtoBytes37 (l : Launch) (Z : State) (a0 : Array Value) (hw : ∀ d ∈ tables_1, d.before a0 Z = true) (ws : List Jvm.Cond) (o0_ : Addr) (ko0_ : ClassId) (x0_ : Int32) (x1_ : Int32) (x2_ : Int32) (x3_ : Int32) (h0 : Heap) (n0 : Nat) (O0 : Old Z n0 h0) (P0 : Arv Z h0 o0_ ko0_ .char (4 : Int32) [(.int x0_), (.int x1_), (.int x2_), (.int x3_)] (.int (0 : Int32))) (P1 : Sta Z Z.heap "java/lang/StringUTF16" "$assertionsDisabled" "Z" (.int (1 : Int32))) (P2 : Sta Z Z.heap "java/lang/StringUTF16" "HI_BYTE_SHIFT" "I" (.int (0 : Int32))) (P3 : Sta Z Z.heap "java/lang/StringUTF16" "LO_BYTE_SHIFT" "I" (.int (8 : Int32))) :
    MetFree l (⟨"java/lang/StringUTF16", "toBytes", "([CII)[B"⟩ : MethodName) (head1 (Jvm.Cond.code (⟨"java/lang/StringUTF16", "toBytes", "([CII)[B"⟩ : MethodName) jdk_52_method_14_code 5 (some (.array .byte)) :: ws) ({ frames := 2, cells := 1, slots := 8, locals := 24 } : Room)) (fun a U => a = #[(.ref o0_), (.int (0 : Int32)), (.int (4 : Int32))] ∧ Z.Warmed39 U.vm ∧ U.heap = h0) (fun _ _ _ _ _ => True) (fun _ U o U' => ∃ v L, o = .returned v ∧ QtoBytes37 Z o0_ ko0_ x0_ x1_ x2_ x3_ h0 n0 v U'.heap L ∧ FrameEnd U o U' L ({ frames := 2, cells := 1, slots := 8, locals := 24 } : Room).cells ({ frames := 2, cells := 1, slots := 8, locals := 24 } : Room).slots) := by
  refine MetFree.of_bodySF (plainFor_of_name pn_0) hisR ?_
  intro p e s m args below meth c s₁ Bd hml0 hP hK
  obtain ⟨rfl, hZ, hh⟩ := hP
  have hx := Bd.exec
  have hby := Bd.bytes
  have hml : c.maxLocals = 5 := hml0
  have hown : s.vm.findClass "java/lang/StringUTF16" = some m.cls := findClass_of_methodNamed Bd.named
  have hnm := (name_of_methodNamed Bd.named Bd.method).1
  have X0 : Stand p l e ({ frames := 2, cells := 1, slots := 8, locals := 24 } : Room) s m #[(.ref o0_), (.int (0 : Int32)), (.int (4 : Int32))] below meth c s₁ [] 0 0 := Stand.of_body Bd
  have e0 : s₁.heap = h0 := by rw [← hh, Bd.state]; rfl
  have N0 := Fr.nil n0
  obtain ⟨G, pre0, hG⟩ : ∃ G : State → Prop, (∀ t, own_S p e below m s₁ 0 #[lvR o0_, lvI (0 : Int32), lvI (4 : Int32), .unset, .unset] [] t → G t) ∧ (∀ t, G t → Steps p.tables e below (s₁.setTop (entryFrame m #[(.ref o0_), (.int (0 : Int32)), (.int (4 : Int32))] 5)) t) := ⟨fun t => Steps p.tables e below (s₁.setTop (entryFrame m #[(.ref o0_), (.int (0 : Int32)), (.int (4 : Int32))] 5)) t, fun t k => castTop (eftoBytes37 m o0_) k, fun _ k => k⟩
  have K0 : Keep h0 h0 [] := Keep.refl _ _
  obtain ⟨_, _, ⟨T1, L1, k1, n1⟩, -, X1, ⟨Lc1, hQ1, l1, y1, z1⟩, st1⟩ := Jvm.LawKit.callS X0 hx (y := (⟨"java/lang/StringUTF16", "newBytesFor", "(I)[B"⟩ : MethodName)) hown (mvT hZ (own_w hw 49 rfl)) (mvT hZ (own_w hw 50 rfl)) (mvT hZ (own_w hw 17 rfl)) (mvT hZ (own_w hw 51 rfl)) (by decide) (backOf (W := 0) (rmnewBytesFor38 l Z a0 hw []  h0 n0 O0 ) hZ (own_w hw 51 rfl) (own_w hw 17 rfl) (by decide) (by decide)) (g := (mkF m 1 #[lvR o0_, lvI (0 : Int32), lvI (4 : Int32), .unset, .unset] [(.int (4 : Int32))])) rfl (by rw [hml]; rfl) (argsL := [(.int (4 : Int32))]) (rest := []) (lenOf pd_2 rfl) rfl (by show 2 * 0 + _ ≤ _; exact Nat.le_of_eq rfl) (hb hby d3_1) (fun _ _ => ⟨rfl, e0, (by decide : 0 + 1 ≤ _), (by decide : 0 + 8 ≤ _)⟩)
  dsimp only [Pt.U, Pt.locs, Pt.cells, Pt.slots] at X1 l1 y1 z1 st1 hQ1
  subst l1 y1 z1
  obtain ⟨h1, e1⟩ : ∃ z, T1.heap = z := ⟨_, rfl⟩
  rw [e1] at hQ1
  obtain ⟨k3_1, nb3_1, rfl, N1q, K1, sznb3_1, g1_0, g1_1⟩ := hQ1
  have N2 := Fr.app N0 N1q
  have ge3 : n0 ≤ nb3_1 := Nat.le_trans (Nat.le_trans (Nat.le_of_eq O0.1.symm) O0.2.1) sznb3_1
  have sz4 : h0.size ≤ nb3_1 := Nat.le_trans K0.1 sznb3_1
  have f5 : Arv Z h1 o0_ ko0_ .char (4 : Int32) [(.int x0_), (.int x1_), (.int x2_), (.int x3_)] (.int (0 : Int32)) := P0.keep K1 nin0
  obtain ⟨c6, r6, q6, s6, z6, y6, G6⟩ := id f5
  have hin6 : ¬ ((0 : Int32) < 0 ∨ c6.slots.size ≤ ((0 : Int32)).toNatClampNeg) := inb_of s6 ⟨by decide, by decide⟩
  have hat6 : c6.slots[((0 : Int32)).toNatClampNeg]? = some (.int x0_) := Has.at y6 hin6 rfl
  have f8 : Old Z n0 h1 := O0.keep K1 all0
  obtain ⟨_, _, ⟨T7, L7, k7, n7⟩, -, X7, ⟨Lc7, hQ7, l7, y7, z7⟩, st7⟩ := Jvm.LawKit.callS X1 hx (y := (⟨"java/lang/StringUTF16", "putChar", "([BII)V"⟩ : MethodName)) hown (mvT hZ (own_w hw 56 rfl)) (mvT hZ (own_w hw 57 rfl)) (mvT hZ (own_w hw 17 rfl)) (mvT hZ (own_w hw 58 rfl)) (by decide) (backOf (W := 0) (rmputChar43 l Z a0 hw [] nb3_1 x0_ k3_1 h1 n0 f8 g1_0 g1_1 P1 P2 ge3 P3) hZ (own_w hw 58 rfl) (own_w hw 17 rfl) (by decide) (by decide)) (g := (mkF m 20 #[lvR o0_, lvI (0 : Int32), lvI (4 : Int32), lvR nb3_1, lvI (0 : Int32)] [(.int x0_), (.int (0 : Int32)), (.ref nb3_1)])) rfl (by rw [hml]; rfl) (argsL := [(.ref nb3_1), (.int (0 : Int32)), (.int x0_)]) (rest := []) (lenOf pd_3 rfl) rfl (by show 2 * 0 + _ ≤ _; exact Nat.le_of_eq rfl) (hb hby d3_20) (fun _ _ => ⟨rfl, e1, (by decide : 1 + 0 ≤ _), (by decide : 8 + 0 ≤ _)⟩)
  dsimp only [Pt.U, Pt.locs, Pt.cells, Pt.slots] at X7 l7 y7 z7 st7 hQ7
  subst l7 y7 z7
  obtain ⟨h7, e7⟩ : ∃ z, T7.heap = z := ⟨_, rfl⟩
  rw [e7] at hQ7
  obtain ⟨rfl, N7q, K7, g7_0, g7_1⟩ := hQ7
  have N9 := Fr.app N2 N7q
  have ne11 : o0_ ≠ nb3_1 := Nat.ne_of_lt (Nat.lt_of_lt_of_le P0.lt sznb3_1)
  have f10 : Arv Z h7 o0_ ko0_ .char (4 : Int32) [(.int x0_), (.int x1_), (.int x2_), (.int x3_)] (.int (0 : Int32)) := f5.keep K7 (ninS ne11 nin0)
  obtain ⟨c12, r12, q12, s12, z12, y12, G12⟩ := id f10
  have hin12 : ¬ ((1 : Int32) < 0 ∨ c12.slots.size ≤ ((1 : Int32)).toNatClampNeg) := inb_of s12 ⟨by decide, by decide⟩
  have hat12 : c12.slots[((1 : Int32)).toNatClampNeg]? = some (.int x1_) := Has.at y12 hin12 rfl
  have f14 : Old Z n0 h7 := f8.keep K7 (allS (ge3) all0)
  obtain ⟨_, _, ⟨T13, L13, k13, n13⟩, -, X13, ⟨Lc13, hQ13, l13, y13, z13⟩, st13⟩ := Jvm.LawKit.callS X7 hx (y := (⟨"java/lang/StringUTF16", "putChar", "([BII)V"⟩ : MethodName)) hown (mvT hZ (own_w hw 56 rfl)) (mvT hZ (own_w hw 57 rfl)) (mvT hZ (own_w hw 17 rfl)) (mvT hZ (own_w hw 58 rfl)) (by decide) (backOf (W := 0) (rmputChar44 l Z a0 hw [] nb3_1 x1_ k3_1 ((x0_ >>> ((0 : Int32) &&& 31)).toInt8.toInt32) ((x0_ >>> ((8 : Int32) &&& 31)).toInt8.toInt32) h7 n0 f14 g7_0 g7_1 P1 P2 ge3 P3) hZ (own_w hw 58 rfl) (own_w hw 17 rfl) (by decide) (by decide)) (g := (mkF m 20 #[lvR o0_, lvI (1 : Int32), lvI (4 : Int32), lvR nb3_1, lvI (1 : Int32)] [(.int x1_), (.int (1 : Int32)), (.ref nb3_1)])) rfl (by rw [hml]; rfl) (argsL := [(.ref nb3_1), (.int (1 : Int32)), (.int x1_)]) (rest := []) (lenOf pd_3 rfl) rfl (by show 2 * 0 + _ ≤ _; exact Nat.le_of_eq rfl) (hb hby d3_20) (fun _ _ => ⟨rfl, e7, (by decide : 1 + 0 ≤ _), (by decide : 8 + 0 ≤ _)⟩)
  dsimp only [Pt.U, Pt.locs, Pt.cells, Pt.slots] at X13 l13 y13 z13 st13 hQ13
  subst l13 y13 z13
  obtain ⟨h13, e13⟩ : ∃ z, T13.heap = z := ⟨_, rfl⟩
  rw [e13] at hQ13
  obtain ⟨rfl, N13q, K13, g13_0, g13_1⟩ := hQ13
  have N15 := Fr.app N9 N13q
  have f16 : Arv Z h13 o0_ ko0_ .char (4 : Int32) [(.int x0_), (.int x1_), (.int x2_), (.int x3_)] (.int (0 : Int32)) := f10.keep K13 (ninS ne11 nin0)
  obtain ⟨c17, r17, q17, s17, z17, y17, G17⟩ := id f16
  have hin17 : ¬ ((2 : Int32) < 0 ∨ c17.slots.size ≤ ((2 : Int32)).toNatClampNeg) := inb_of s17 ⟨by decide, by decide⟩
  have hat17 : c17.slots[((2 : Int32)).toNatClampNeg]? = some (.int x2_) := Has.at y17 hin17 rfl
  have f19 : Old Z n0 h13 := f14.keep K13 (allS (ge3) all0)
  obtain ⟨_, _, ⟨T18, L18, k18, n18⟩, -, X18, ⟨Lc18, hQ18, l18, y18, z18⟩, st18⟩ := Jvm.LawKit.callS X13 hx (y := (⟨"java/lang/StringUTF16", "putChar", "([BII)V"⟩ : MethodName)) hown (mvT hZ (own_w hw 56 rfl)) (mvT hZ (own_w hw 57 rfl)) (mvT hZ (own_w hw 17 rfl)) (mvT hZ (own_w hw 58 rfl)) (by decide) (backOf (W := 0) (rmputChar45 l Z a0 hw [] nb3_1 x2_ k3_1 ((x0_ >>> ((0 : Int32) &&& 31)).toInt8.toInt32) ((x0_ >>> ((8 : Int32) &&& 31)).toInt8.toInt32) ((x1_ >>> ((0 : Int32) &&& 31)).toInt8.toInt32) ((x1_ >>> ((8 : Int32) &&& 31)).toInt8.toInt32) h13 n0 f19 g13_0 g13_1 P1 P2 ge3 P3) hZ (own_w hw 58 rfl) (own_w hw 17 rfl) (by decide) (by decide)) (g := (mkF m 20 #[lvR o0_, lvI (2 : Int32), lvI (4 : Int32), lvR nb3_1, lvI (2 : Int32)] [(.int x2_), (.int (2 : Int32)), (.ref nb3_1)])) rfl (by rw [hml]; rfl) (argsL := [(.ref nb3_1), (.int (2 : Int32)), (.int x2_)]) (rest := []) (lenOf pd_3 rfl) rfl (by show 2 * 0 + _ ≤ _; exact Nat.le_of_eq rfl) (hb hby d3_20) (fun _ _ => ⟨rfl, e13, (by decide : 1 + 0 ≤ _), (by decide : 8 + 0 ≤ _)⟩)
  dsimp only [Pt.U, Pt.locs, Pt.cells, Pt.slots] at X18 l18 y18 z18 st18 hQ18
  subst l18 y18 z18
  obtain ⟨h18, e18⟩ : ∃ z, T18.heap = z := ⟨_, rfl⟩
  rw [e18] at hQ18
  obtain ⟨rfl, N18q, K18, g18_0, g18_1⟩ := hQ18
  have N20 := Fr.app N15 N18q
  have f21 : Arv Z h18 o0_ ko0_ .char (4 : Int32) [(.int x0_), (.int x1_), (.int x2_), (.int x3_)] (.int (0 : Int32)) := f16.keep K18 (ninS ne11 nin0)
  obtain ⟨c22, r22, q22, s22, z22, y22, G22⟩ := id f21
  have hin22 : ¬ ((3 : Int32) < 0 ∨ c22.slots.size ≤ ((3 : Int32)).toNatClampNeg) := inb_of s22 ⟨by decide, by decide⟩
  have hat22 : c22.slots[((3 : Int32)).toNatClampNeg]? = some (.int x3_) := Has.at y22 hin22 rfl
  have f24 : Old Z n0 h18 := f19.keep K18 (allS (ge3) all0)
  obtain ⟨_, _, ⟨T23, L23, k23, n23⟩, -, X23, ⟨Lc23, hQ23, l23, y23, z23⟩, st23⟩ := Jvm.LawKit.callS X18 hx (y := (⟨"java/lang/StringUTF16", "putChar", "([BII)V"⟩ : MethodName)) hown (mvT hZ (own_w hw 56 rfl)) (mvT hZ (own_w hw 57 rfl)) (mvT hZ (own_w hw 17 rfl)) (mvT hZ (own_w hw 58 rfl)) (by decide) (backOf (W := 0) (rmputChar46 l Z a0 hw [] nb3_1 x3_ k3_1 ((x0_ >>> ((0 : Int32) &&& 31)).toInt8.toInt32) ((x0_ >>> ((8 : Int32) &&& 31)).toInt8.toInt32) ((x1_ >>> ((0 : Int32) &&& 31)).toInt8.toInt32) ((x1_ >>> ((8 : Int32) &&& 31)).toInt8.toInt32) ((x2_ >>> ((0 : Int32) &&& 31)).toInt8.toInt32) ((x2_ >>> ((8 : Int32) &&& 31)).toInt8.toInt32) h18 n0 f24 g18_0 g18_1 P1 P2 ge3 P3) hZ (own_w hw 58 rfl) (own_w hw 17 rfl) (by decide) (by decide)) (g := (mkF m 20 #[lvR o0_, lvI (3 : Int32), lvI (4 : Int32), lvR nb3_1, lvI (3 : Int32)] [(.int x3_), (.int (3 : Int32)), (.ref nb3_1)])) rfl (by rw [hml]; rfl) (argsL := [(.ref nb3_1), (.int (3 : Int32)), (.int x3_)]) (rest := []) (lenOf pd_3 rfl) rfl (by show 2 * 0 + _ ≤ _; exact Nat.le_of_eq rfl) (hb hby d3_20) (fun _ _ => ⟨rfl, e18, (by decide : 1 + 0 ≤ _), (by decide : 8 + 0 ≤ _)⟩)
  dsimp only [Pt.U, Pt.locs, Pt.cells, Pt.slots] at X23 l23 y23 z23 st23 hQ23
  subst l23 y23 z23
  obtain ⟨h23, e23⟩ : ∃ z, T23.heap = z := ⟨_, rfl⟩
  rw [e23] at hQ23
  obtain ⟨rfl, N23q, K23, g23_0, g23_1⟩ := hQ23
  have N25 := Fr.app N20 N23q
  have pre26 : ∀ t, own_S p e below m T23 33 #[lvR o0_, lvI (4 : Int32), lvI (4 : Int32), lvR nb3_1, lvI (4 : Int32)] [(.ref nb3_1)] t → G t := by
    intro t kt
    refine pre0 t ?_
    show own_S p e below m s₁ 0 #[lvR o0_, lvI (0 : Int32), lvI (4 : Int32), .unset, .unset] [] _
    refine XS.iloadN X0.here hx rfl (hb hby d3_0) rfl ?_
    show own_S p e below m s₁ 1 #[lvR o0_, lvI (0 : Int32), lvI (4 : Int32), .unset, .unset] [(.int (4 : Int32))] _
    refine st1 _ ?_
    refine XS.astoreN X1.here hx rfl (hb hby d3_4) rfl rfl (l' := #[lvR o0_, lvI (0 : Int32), lvI (4 : Int32), lvR nb3_1, .unset]) rfl ?_
    refine XS.iconst X1.here hx rfl (hb hby d3_5) ?_
    refine XS.istore X1.here hx rfl (hb hby d3_6) rfl (l' := #[lvR o0_, lvI (0 : Int32), lvI (4 : Int32), lvR nb3_1, lvI (0 : Int32)]) rfl ?_
    refine XS.iload X1.here hx rfl (hb hby d3_8) rfl ?_
    refine XS.iloadN X1.here hx rfl (hb hby d3_10) rfl ?_
    show own_S p e below m T1 11 #[lvR o0_, lvI (0 : Int32), lvI (4 : Int32), lvR nb3_1, lvI (0 : Int32)] [(.int (4 : Int32)), (.int (0 : Int32))] _
    refine XS.icmpNo X1.here hx rfl (hb hby d3_11) rfl (tlt (by decide : (0 : Int32) < (4 : Int32))).2.1 ?_
    refine XS.aloadN X1.here hx rfl (hb hby d3_14) rfl rfl ?_
    refine XS.iload X1.here hx rfl (hb hby d3_15) rfl ?_
    refine XS.aloadN X1.here hx rfl (hb hby d3_17) rfl rfl ?_
    refine XS.iloadN X1.here hx rfl (hb hby d3_18) rfl ?_
    show own_S p e below m T1 19 #[lvR o0_, lvI (0 : Int32), lvI (4 : Int32), lvR nb3_1, lvI (0 : Int32)] [(.int (0 : Int32)), (.ref o0_), (.int (0 : Int32)), (.ref nb3_1)] _
    refine X1.caload hx (j := (0 : Int32)) (v := (.int x0_)) (by rw [e1]; exact r6.1) (State.isArrayOf_alike hZ.alike r6.2.1) r6.2.2 hin6 hat6 (g := (mkF m 19 #[lvR o0_, lvI (0 : Int32), lvI (4 : Int32), lvR nb3_1, lvI (0 : Int32)] [(.int (0 : Int32)), (.ref o0_), (.int (0 : Int32)), (.ref nb3_1)])) rfl rfl (hb hby d3_19) _ ?_
    show own_S p e below m T1 20 #[lvR o0_, lvI (0 : Int32), lvI (4 : Int32), lvR nb3_1, lvI (0 : Int32)] [(.int x0_), (.int (0 : Int32)), (.ref nb3_1)] _
    refine st7 _ ?_
    refine XS.iinc X7.here hx rfl (hb hby d3_23) rfl (l' := #[lvR o0_, lvI (1 : Int32), lvI (4 : Int32), lvR nb3_1, lvI (0 : Int32)]) rfl ?_
    refine XS.iinc X7.here hx rfl (hb hby d3_26) rfl (l' := #[lvR o0_, lvI (1 : Int32), lvI (4 : Int32), lvR nb3_1, lvI (1 : Int32)]) rfl ?_
    refine XS.goto X7.here hx rfl (pc0 := 29) (pc' := 8) rfl (hb hby d3_29) (by decide) (by decide) ?_
    refine XS.iload X7.here hx rfl (hb hby d3_8) rfl ?_
    refine XS.iloadN X7.here hx rfl (hb hby d3_10) rfl ?_
    show own_S p e below m T7 11 #[lvR o0_, lvI (1 : Int32), lvI (4 : Int32), lvR nb3_1, lvI (1 : Int32)] [(.int (4 : Int32)), (.int (1 : Int32))] _
    refine XS.icmpNo X7.here hx rfl (hb hby d3_11) rfl (tlt (by decide : (1 : Int32) < (4 : Int32))).2.1 ?_
    refine XS.aloadN X7.here hx rfl (hb hby d3_14) rfl rfl ?_
    refine XS.iload X7.here hx rfl (hb hby d3_15) rfl ?_
    refine XS.aloadN X7.here hx rfl (hb hby d3_17) rfl rfl ?_
    refine XS.iloadN X7.here hx rfl (hb hby d3_18) rfl ?_
    show own_S p e below m T7 19 #[lvR o0_, lvI (1 : Int32), lvI (4 : Int32), lvR nb3_1, lvI (1 : Int32)] [(.int (1 : Int32)), (.ref o0_), (.int (1 : Int32)), (.ref nb3_1)] _
    refine X7.caload hx (j := (1 : Int32)) (v := (.int x1_)) (by rw [e7]; exact r12.1) (State.isArrayOf_alike hZ.alike r12.2.1) r12.2.2 hin12 hat12 (g := (mkF m 19 #[lvR o0_, lvI (1 : Int32), lvI (4 : Int32), lvR nb3_1, lvI (1 : Int32)] [(.int (1 : Int32)), (.ref o0_), (.int (1 : Int32)), (.ref nb3_1)])) rfl rfl (hb hby d3_19) _ ?_
    show own_S p e below m T7 20 #[lvR o0_, lvI (1 : Int32), lvI (4 : Int32), lvR nb3_1, lvI (1 : Int32)] [(.int x1_), (.int (1 : Int32)), (.ref nb3_1)] _
    refine st13 _ ?_
    refine XS.iinc X13.here hx rfl (hb hby d3_23) rfl (l' := #[lvR o0_, lvI (2 : Int32), lvI (4 : Int32), lvR nb3_1, lvI (1 : Int32)]) rfl ?_
    refine XS.iinc X13.here hx rfl (hb hby d3_26) rfl (l' := #[lvR o0_, lvI (2 : Int32), lvI (4 : Int32), lvR nb3_1, lvI (2 : Int32)]) rfl ?_
    refine XS.goto X13.here hx rfl (pc0 := 29) (pc' := 8) rfl (hb hby d3_29) (by decide) (by decide) ?_
    refine XS.iload X13.here hx rfl (hb hby d3_8) rfl ?_
    refine XS.iloadN X13.here hx rfl (hb hby d3_10) rfl ?_
    show own_S p e below m T13 11 #[lvR o0_, lvI (2 : Int32), lvI (4 : Int32), lvR nb3_1, lvI (2 : Int32)] [(.int (4 : Int32)), (.int (2 : Int32))] _
    refine XS.icmpNo X13.here hx rfl (hb hby d3_11) rfl (tlt (by decide : (2 : Int32) < (4 : Int32))).2.1 ?_
    refine XS.aloadN X13.here hx rfl (hb hby d3_14) rfl rfl ?_
    refine XS.iload X13.here hx rfl (hb hby d3_15) rfl ?_
    refine XS.aloadN X13.here hx rfl (hb hby d3_17) rfl rfl ?_
    refine XS.iloadN X13.here hx rfl (hb hby d3_18) rfl ?_
    show own_S p e below m T13 19 #[lvR o0_, lvI (2 : Int32), lvI (4 : Int32), lvR nb3_1, lvI (2 : Int32)] [(.int (2 : Int32)), (.ref o0_), (.int (2 : Int32)), (.ref nb3_1)] _
    refine X13.caload hx (j := (2 : Int32)) (v := (.int x2_)) (by rw [e13]; exact r17.1) (State.isArrayOf_alike hZ.alike r17.2.1) r17.2.2 hin17 hat17 (g := (mkF m 19 #[lvR o0_, lvI (2 : Int32), lvI (4 : Int32), lvR nb3_1, lvI (2 : Int32)] [(.int (2 : Int32)), (.ref o0_), (.int (2 : Int32)), (.ref nb3_1)])) rfl rfl (hb hby d3_19) _ ?_
    show own_S p e below m T13 20 #[lvR o0_, lvI (2 : Int32), lvI (4 : Int32), lvR nb3_1, lvI (2 : Int32)] [(.int x2_), (.int (2 : Int32)), (.ref nb3_1)] _
    refine st18 _ ?_
    refine XS.iinc X18.here hx rfl (hb hby d3_23) rfl (l' := #[lvR o0_, lvI (3 : Int32), lvI (4 : Int32), lvR nb3_1, lvI (2 : Int32)]) rfl ?_
    refine XS.iinc X18.here hx rfl (hb hby d3_26) rfl (l' := #[lvR o0_, lvI (3 : Int32), lvI (4 : Int32), lvR nb3_1, lvI (3 : Int32)]) rfl ?_
    refine XS.goto X18.here hx rfl (pc0 := 29) (pc' := 8) rfl (hb hby d3_29) (by decide) (by decide) ?_
    refine XS.iload X18.here hx rfl (hb hby d3_8) rfl ?_
    refine XS.iloadN X18.here hx rfl (hb hby d3_10) rfl ?_
    show own_S p e below m T18 11 #[lvR o0_, lvI (3 : Int32), lvI (4 : Int32), lvR nb3_1, lvI (3 : Int32)] [(.int (4 : Int32)), (.int (3 : Int32))] _
    refine XS.icmpNo X18.here hx rfl (hb hby d3_11) rfl (tlt (by decide : (3 : Int32) < (4 : Int32))).2.1 ?_
    refine XS.aloadN X18.here hx rfl (hb hby d3_14) rfl rfl ?_
    refine XS.iload X18.here hx rfl (hb hby d3_15) rfl ?_
    refine XS.aloadN X18.here hx rfl (hb hby d3_17) rfl rfl ?_
    refine XS.iloadN X18.here hx rfl (hb hby d3_18) rfl ?_
    show own_S p e below m T18 19 #[lvR o0_, lvI (3 : Int32), lvI (4 : Int32), lvR nb3_1, lvI (3 : Int32)] [(.int (3 : Int32)), (.ref o0_), (.int (3 : Int32)), (.ref nb3_1)] _
    refine X18.caload hx (j := (3 : Int32)) (v := (.int x3_)) (by rw [e18]; exact r22.1) (State.isArrayOf_alike hZ.alike r22.2.1) r22.2.2 hin22 hat22 (g := (mkF m 19 #[lvR o0_, lvI (3 : Int32), lvI (4 : Int32), lvR nb3_1, lvI (3 : Int32)] [(.int (3 : Int32)), (.ref o0_), (.int (3 : Int32)), (.ref nb3_1)])) rfl rfl (hb hby d3_19) _ ?_
    show own_S p e below m T18 20 #[lvR o0_, lvI (3 : Int32), lvI (4 : Int32), lvR nb3_1, lvI (3 : Int32)] [(.int x3_), (.int (3 : Int32)), (.ref nb3_1)] _
    refine st23 _ ?_
    refine XS.iinc X23.here hx rfl (hb hby d3_23) rfl (l' := #[lvR o0_, lvI (4 : Int32), lvI (4 : Int32), lvR nb3_1, lvI (3 : Int32)]) rfl ?_
    refine XS.iinc X23.here hx rfl (hb hby d3_26) rfl (l' := #[lvR o0_, lvI (4 : Int32), lvI (4 : Int32), lvR nb3_1, lvI (4 : Int32)]) rfl ?_
    refine XS.goto X23.here hx rfl (pc0 := 29) (pc' := 8) rfl (hb hby d3_29) (by decide) (by decide) ?_
    refine XS.iload X23.here hx rfl (hb hby d3_8) rfl ?_
    refine XS.iloadN X23.here hx rfl (hb hby d3_10) rfl ?_
    show own_S p e below m T23 11 #[lvR o0_, lvI (4 : Int32), lvI (4 : Int32), lvR nb3_1, lvI (4 : Int32)] [(.int (4 : Int32)), (.int (4 : Int32))] _
    refine XS.icmpYes X23.here hx rfl (pc0 := 11) (pc' := 32) rfl (hb hby d3_11) rfl (flt (by decide : ¬ ((4 : Int32) < (4 : Int32)))).2.1 (by decide) (by decide) ?_
    refine XS.aloadN X23.here hx rfl (hb hby d3_32) rfl rfl ?_
    exact kt
  have f28 : Keep h0 h1 [] := K0.trans K1 all0
  have f29 : Keep h0 h7 [] := f28.trans K7 (allS (Or.inr sz4) all0)
  have f30 : Keep h0 h13 [] := f29.trans K13 (allS (Or.inr sz4) all0)
  have f31 : Keep h0 h18 [] := f30.trans K18 (allS (Or.inr sz4) all0)
  have f32 : Keep h0 h23 [] := f31.trans K23 (allS (Or.inr sz4) all0)
  obtain ⟨fs, hr, hrun, hended, hW, hsame⟩ := X23.leave (v := some (.ref nb3_1)) (fun h => by rw [Bd.returns] at h; cases h)
  refine ⟨_, _, hG _ (pre26 _ (retOut X23 hx Bd.returns rfl (Or.inr (Or.inr (Or.inr (Or.inr ⟨rfl, rfl, rfl⟩)))) (hb hby d3_33) hr)), hrun, hended, _, _, rfl, ?_, ⟨_, rfl⟩, hW, hsame.mono (by decide) (by decide)⟩
  show QtoBytes37 Z o0_ ko0_ x0_ x1_ x2_ x3_ h0 n0 _ T23.heap _
  rw [e23]
  exact ⟨k3_1, nb3_1, rfl, N25, f32, sz4, g23_0, g23_1⟩
theorem efgetChar47 (m : MethodId) (o0_ : Addr) : entryFrame m #[(.ref o0_), (.int (0 : Int32))] 2 = mkF m 0 #[lvR o0_, lvI (0 : Int32)] [] := by first | (simp [entryFrame, mkF, argsToLocals, Value.category]; done) | rfl
def QgetChar47 (Z : State) (o0_ : Addr) (ko0_ : ClassId) (x0_ : Int32) (x1_ : Int32) (x2_ : Int32) (x3_ : Int32) (x4_ : Int32) (x5_ : Int32) (x6_ : Int32) (x7_ : Int32) (h0 : Heap) (n0 : Nat) (v : Option Value) (h : Heap) (L : List Loc) : Prop := v = some (.int ((((x0_ &&& (255 : Int32)) <<< ((0 : Int32) &&& 31)) ||| ((x1_ &&& (255 : Int32)) <<< ((8 : Int32) &&& 31))).toUInt32.toUInt16.toUInt32.toInt32)) ∧ Fr n0 L ∧ h = h0
set_option maxRecDepth 65536 in
set_option maxHeartbeats 40000000 in
theorem rmgetChar47 (l : Launch) (Z : State) (a0 : Array Value) (hw : ∀ d ∈ tables_1, d.before a0 Z = true) (ws : List Jvm.Cond) (o0_ : Addr) (ko0_ : ClassId) (x0_ : Int32) (x1_ : Int32) (x2_ : Int32) (x3_ : Int32) (x4_ : Int32) (x5_ : Int32) (x6_ : Int32) (x7_ : Int32) (h0 : Heap) (n0 : Nat) (O0 : Old Z n0 h0) (P0 : Arv Z h0 o0_ ko0_ .byte (8 : Int32) [(.int x0_), (.int x1_), (.int x2_), (.int x3_), (.int x4_), (.int x5_), (.int x6_), (.int x7_)] (.int (0 : Int32))) (P1 : Exa Z h0 o0_ "[B") (P2 : Sta Z Z.heap "java/lang/StringUTF16" "$assertionsDisabled" "Z" (.int (1 : Int32))) (P3 : Sta Z Z.heap "java/lang/StringUTF16" "HI_BYTE_SHIFT" "I" (.int (0 : Int32))) (P4 : Sta Z Z.heap "java/lang/StringUTF16" "LO_BYTE_SHIFT" "I" (.int (8 : Int32))) :
    MetFree l (⟨"java/lang/StringUTF16", "getChar", "([BI)C"⟩ : MethodName) (head1 (Jvm.Cond.code (⟨"java/lang/StringUTF16", "getChar", "([BI)C"⟩ : MethodName) jdk_52_method_5_code 2 (some .char) :: ws) ({ frames := 0, cells := 0, slots := 0, locals := 0 } : Room)) (fun a U => a = #[(.ref o0_), (.int (0 : Int32))] ∧ Z.Warmed39 U.vm ∧ U.heap = h0) (fun _ _ _ _ _ => True) (fun _ U o U' => ∃ v L, o = .returned v ∧ QgetChar47 Z o0_ ko0_ x0_ x1_ x2_ x3_ x4_ x5_ x6_ x7_ h0 n0 v U'.heap L ∧ FrameEnd U o U' L ({ frames := 0, cells := 0, slots := 0, locals := 0 } : Room).cells ({ frames := 0, cells := 0, slots := 0, locals := 0 } : Room).slots) := by
  refine MetFree.of_bodySF (plainFor_of_name pn_0) hisR ?_
  intro p e s m args below meth c s₁ Bd hml0 hP hK
  obtain ⟨rfl, hZ, hh⟩ := hP
  have hx := Bd.exec
  have hby := Bd.bytes
  have hml : c.maxLocals = 2 := hml0
  have hown : s.vm.findClass "java/lang/StringUTF16" = some m.cls := findClass_of_methodNamed Bd.named
  have hnm := (name_of_methodNamed Bd.named Bd.method).1
  have X0 : Stand p l e ({ frames := 0, cells := 0, slots := 0, locals := 0 } : Room) s m #[(.ref o0_), (.int (0 : Int32))] below meth c s₁ [] 0 0 := Stand.of_body Bd
  have e0 : s₁.heap = h0 := by rw [← hh, Bd.state]; rfl
  have N0 := Fr.nil n0
  obtain ⟨G, pre0, hG⟩ : ∃ G : State → Prop, (∀ t, own_S p e below m s₁ 0 #[lvR o0_, lvI (0 : Int32)] [] t → G t) ∧ (∀ t, G t → Steps p.tables e below (s₁.setTop (entryFrame m #[(.ref o0_), (.int (0 : Int32))] 2)) t) := ⟨fun t => Steps p.tables e below (s₁.setTop (entryFrame m #[(.ref o0_), (.int (0 : Int32))] 2)) t, fun t k => castTop (efgetChar47 m o0_) k, fun _ k => k⟩
  have K0 : Keep h0 h0 [] := Keep.refl _ _
  obtain ⟨T1, X1, e1, st1⟩ := getS2 X0 hx hZ hown (host := "") (Or.inl (own_w hw 59 rfl)) Via.refl e0 (P2.ext O0.2) (g := (mkF m 0 #[lvR o0_, lvI (0 : Int32)] [])) rfl (hb hby d7_0)
  obtain ⟨c2, r2, q2, s2, z2, y2, G2⟩ := id P0
  have hin2 : ¬ ((0 : Int32) < 0 ∨ c2.slots.size ≤ ((0 : Int32)).toNatClampNeg) := inb_of s2 ⟨by decide, by decide⟩
  have hat2 : c2.slots[((0 : Int32)).toNatClampNeg]? = some (.int x0_) := Has.at y2 hin2 rfl
  obtain ⟨T3, X3, e3, st3⟩ := getS2 X1 hx hZ hown (host := "") (Or.inl (own_w hw 60 rfl)) Via.refl e1 (P3.ext O0.2) (g := (mkF m 42 #[lvR o0_, lvI (1 : Int32)] [(.int (x0_ &&& (255 : Int32)))])) rfl (hb hby d7_42)
  obtain ⟨c4, r4, q4, s4, z4, y4, G4⟩ := id P0
  have hin4 : ¬ ((1 : Int32) < 0 ∨ c4.slots.size ≤ ((1 : Int32)).toNatClampNeg) := inb_of s4 ⟨by decide, by decide⟩
  have hat4 : c4.slots[((1 : Int32)).toNatClampNeg]? = some (.int x1_) := Has.at y4 hin4 rfl
  obtain ⟨T5, X5, e5, st5⟩ := getS2 X3 hx hZ hown (host := "") (Or.inl (own_w hw 61 rfl)) Via.refl e3 (P4.ext O0.2) (g := (mkF m 53 #[lvR o0_, lvI (1 : Int32)] [(.int (x1_ &&& (255 : Int32))), (.int ((x0_ &&& (255 : Int32)) <<< ((0 : Int32) &&& 31)))])) rfl (hb hby d7_53)
  have pre6 : ∀ t, own_S p e below m T5 59 #[lvR o0_, lvI (1 : Int32)] [(.int ((((x0_ &&& (255 : Int32)) <<< ((0 : Int32) &&& 31)) ||| ((x1_ &&& (255 : Int32)) <<< ((8 : Int32) &&& 31))).toUInt32.toUInt16.toUInt32.toInt32))] t → G t := by
    intro t kt
    refine pre0 t ?_
    show own_S p e below m s₁ 0 #[lvR o0_, lvI (0 : Int32)] [] _
    refine st1 _ ?_
    show own_S p e below m T1 3 #[lvR o0_, lvI (0 : Int32)] [(.int (1 : Int32))] _
    refine XS.ifYes X1.here hx rfl (pc0 := 3) (pc' := 28) rfl (hb hby d7_3) rfl ((if0 _ _).trans (feq (by decide : ¬ ((1 : Int32) = (0 : Int32)))).2) (by decide) (by decide) ?_
    refine XS.iloadN X1.here hx rfl (hb hby d7_28) rfl ?_
    refine XS.iconst X1.here hx rfl (hb hby d7_29) ?_
    show own_S p e below m T1 30 #[lvR o0_, lvI (0 : Int32)] [(.int (1 : Int32)), (.int (0 : Int32))] _
    refine XS.ishl X1.here hx rfl (hb hby d7_30) rfl ?_
    refine XS.istoreN X1.here hx rfl (hb hby d7_31) rfl (l' := #[lvR o0_, lvI (0 : Int32)]) rfl ?_
    refine XS.aloadN X1.here hx rfl (hb hby d7_32) rfl rfl ?_
    refine XS.iloadN X1.here hx rfl (hb hby d7_33) rfl ?_
    refine XS.iinc X1.here hx rfl (hb hby d7_34) rfl (l' := #[lvR o0_, lvI (1 : Int32)]) rfl ?_
    show own_S p e below m T1 37 #[lvR o0_, lvI (1 : Int32)] [(.int (0 : Int32)), (.ref o0_)] _
    refine X1.baloadBytes hx (j := (0 : Int32)) (v := (.int x0_)) (by rw [e1]; exact r2.1) (State.isArrayOf_alike hZ.alike r2.2.1) r2.2.2 hin2 hat2 (g := (mkF m 37 #[lvR o0_, lvI (1 : Int32)] [(.int (0 : Int32)), (.ref o0_)])) rfl rfl (hb hby d7_37) _ ?_
    refine XS.sipush X1.here hx rfl (hb hby d7_38) ?_
    refine XS.iand X1.here hx rfl (hb hby d7_41) rfl ?_
    show own_S p e below m T1 42 #[lvR o0_, lvI (1 : Int32)] [(.int (x0_ &&& (255 : Int32)))] _
    refine st3 _ ?_
    show own_S p e below m T3 45 #[lvR o0_, lvI (1 : Int32)] [(.int (0 : Int32)), (.int (x0_ &&& (255 : Int32)))] _
    refine XS.ishl X3.here hx rfl (hb hby d7_45) rfl ?_
    refine XS.aloadN X3.here hx rfl (hb hby d7_46) rfl rfl ?_
    refine XS.iloadN X3.here hx rfl (hb hby d7_47) rfl ?_
    show own_S p e below m T3 48 #[lvR o0_, lvI (1 : Int32)] [(.int (1 : Int32)), (.ref o0_), (.int ((x0_ &&& (255 : Int32)) <<< ((0 : Int32) &&& 31)))] _
    refine X3.baloadBytes hx (j := (1 : Int32)) (v := (.int x1_)) (by rw [e3]; exact r4.1) (State.isArrayOf_alike hZ.alike r4.2.1) r4.2.2 hin4 hat4 (g := (mkF m 48 #[lvR o0_, lvI (1 : Int32)] [(.int (1 : Int32)), (.ref o0_), (.int ((x0_ &&& (255 : Int32)) <<< ((0 : Int32) &&& 31)))])) rfl rfl (hb hby d7_48) _ ?_
    refine XS.sipush X3.here hx rfl (hb hby d7_49) ?_
    refine XS.iand X3.here hx rfl (hb hby d7_52) rfl ?_
    show own_S p e below m T3 53 #[lvR o0_, lvI (1 : Int32)] [(.int (x1_ &&& (255 : Int32))), (.int ((x0_ &&& (255 : Int32)) <<< ((0 : Int32) &&& 31)))] _
    refine st5 _ ?_
    show own_S p e below m T5 56 #[lvR o0_, lvI (1 : Int32)] [(.int (8 : Int32)), (.int (x1_ &&& (255 : Int32))), (.int ((x0_ &&& (255 : Int32)) <<< ((0 : Int32) &&& 31)))] _
    refine XS.ishl X5.here hx rfl (hb hby d7_56) rfl ?_
    show own_S p e below m T5 57 #[lvR o0_, lvI (1 : Int32)] [(.int ((x1_ &&& (255 : Int32)) <<< ((8 : Int32) &&& 31))), (.int ((x0_ &&& (255 : Int32)) <<< ((0 : Int32) &&& 31)))] _
    refine XS.ior X5.here hx rfl (hb hby d7_57) rfl ?_
    show own_S p e below m T5 58 #[lvR o0_, lvI (1 : Int32)] [(.int (((x0_ &&& (255 : Int32)) <<< ((0 : Int32) &&& 31)) ||| ((x1_ &&& (255 : Int32)) <<< ((8 : Int32) &&& 31))))] _
    refine XS.i2c X5.here hx rfl (hb hby d7_58) rfl ?_
    exact kt
  obtain ⟨fs, hr, hrun, hended, hW, hsame⟩ := X5.leave (v := some (.int (nar .char ((((x0_ &&& (255 : Int32)) <<< ((0 : Int32) &&& 31)) ||| ((x1_ &&& (255 : Int32)) <<< ((8 : Int32) &&& 31))).toUInt32.toUInt16.toUInt32.toInt32)))) (fun h => by rw [Bd.returns] at h; cases h)
  refine ⟨_, _, hG _ (pre6 _ (retN X5 hx (t := .char) Bd.returns (by simp) (hb hby d7_59) hr)), hrun, hended, _, _, rfl, ?_, ⟨_, rfl⟩, hW, hsame.mono (by decide) (by decide)⟩
  show QgetChar47 Z o0_ ko0_ x0_ x1_ x2_ x3_ x4_ x5_ x6_ x7_ h0 n0 _ T5.heap _
  rw [e5]
  exact ⟨(by rw [own_narc]), N0, rfl⟩
theorem efgetChar48 (m : MethodId) (o0_ : Addr) : entryFrame m #[(.ref o0_), (.int (1 : Int32))] 2 = mkF m 0 #[lvR o0_, lvI (1 : Int32)] [] := by first | (simp [entryFrame, mkF, argsToLocals, Value.category]; done) | rfl
def QgetChar48 (Z : State) (o0_ : Addr) (ko0_ : ClassId) (x0_ : Int32) (x1_ : Int32) (x2_ : Int32) (x3_ : Int32) (x4_ : Int32) (x5_ : Int32) (x6_ : Int32) (x7_ : Int32) (h0 : Heap) (n0 : Nat) (v : Option Value) (h : Heap) (L : List Loc) : Prop := v = some (.int ((((x2_ &&& (255 : Int32)) <<< ((0 : Int32) &&& 31)) ||| ((x3_ &&& (255 : Int32)) <<< ((8 : Int32) &&& 31))).toUInt32.toUInt16.toUInt32.toInt32)) ∧ Fr n0 L ∧ h = h0
set_option maxRecDepth 65536 in
set_option maxHeartbeats 40000000 in
theorem rmgetChar48 (l : Launch) (Z : State) (a0 : Array Value) (hw : ∀ d ∈ tables_1, d.before a0 Z = true) (ws : List Jvm.Cond) (o0_ : Addr) (ko0_ : ClassId) (x0_ : Int32) (x1_ : Int32) (x2_ : Int32) (x3_ : Int32) (x4_ : Int32) (x5_ : Int32) (x6_ : Int32) (x7_ : Int32) (h0 : Heap) (n0 : Nat) (O0 : Old Z n0 h0) (P0 : Arv Z h0 o0_ ko0_ .byte (8 : Int32) [(.int x0_), (.int x1_), (.int x2_), (.int x3_), (.int x4_), (.int x5_), (.int x6_), (.int x7_)] (.int (0 : Int32))) (P1 : Exa Z h0 o0_ "[B") (P2 : Sta Z Z.heap "java/lang/StringUTF16" "$assertionsDisabled" "Z" (.int (1 : Int32))) (P3 : Sta Z Z.heap "java/lang/StringUTF16" "HI_BYTE_SHIFT" "I" (.int (0 : Int32))) (P4 : Sta Z Z.heap "java/lang/StringUTF16" "LO_BYTE_SHIFT" "I" (.int (8 : Int32))) :
    MetFree l (⟨"java/lang/StringUTF16", "getChar", "([BI)C"⟩ : MethodName) (head1 (Jvm.Cond.code (⟨"java/lang/StringUTF16", "getChar", "([BI)C"⟩ : MethodName) jdk_52_method_5_code 2 (some .char) :: ws) ({ frames := 0, cells := 0, slots := 0, locals := 0 } : Room)) (fun a U => a = #[(.ref o0_), (.int (1 : Int32))] ∧ Z.Warmed39 U.vm ∧ U.heap = h0) (fun _ _ _ _ _ => True) (fun _ U o U' => ∃ v L, o = .returned v ∧ QgetChar48 Z o0_ ko0_ x0_ x1_ x2_ x3_ x4_ x5_ x6_ x7_ h0 n0 v U'.heap L ∧ FrameEnd U o U' L ({ frames := 0, cells := 0, slots := 0, locals := 0 } : Room).cells ({ frames := 0, cells := 0, slots := 0, locals := 0 } : Room).slots) := by
  refine MetFree.of_bodySF (plainFor_of_name pn_0) hisR ?_
  intro p e s m args below meth c s₁ Bd hml0 hP hK
  obtain ⟨rfl, hZ, hh⟩ := hP
  have hx := Bd.exec
  have hby := Bd.bytes
  have hml : c.maxLocals = 2 := hml0
  have hown : s.vm.findClass "java/lang/StringUTF16" = some m.cls := findClass_of_methodNamed Bd.named
  have hnm := (name_of_methodNamed Bd.named Bd.method).1
  have X0 : Stand p l e ({ frames := 0, cells := 0, slots := 0, locals := 0 } : Room) s m #[(.ref o0_), (.int (1 : Int32))] below meth c s₁ [] 0 0 := Stand.of_body Bd
  have e0 : s₁.heap = h0 := by rw [← hh, Bd.state]; rfl
  have N0 := Fr.nil n0
  obtain ⟨G, pre0, hG⟩ : ∃ G : State → Prop, (∀ t, own_S p e below m s₁ 0 #[lvR o0_, lvI (1 : Int32)] [] t → G t) ∧ (∀ t, G t → Steps p.tables e below (s₁.setTop (entryFrame m #[(.ref o0_), (.int (1 : Int32))] 2)) t) := ⟨fun t => Steps p.tables e below (s₁.setTop (entryFrame m #[(.ref o0_), (.int (1 : Int32))] 2)) t, fun t k => castTop (efgetChar48 m o0_) k, fun _ k => k⟩
  have K0 : Keep h0 h0 [] := Keep.refl _ _
  obtain ⟨T1, X1, e1, st1⟩ := getS2 X0 hx hZ hown (host := "") (Or.inl (own_w hw 59 rfl)) Via.refl e0 (P2.ext O0.2) (g := (mkF m 0 #[lvR o0_, lvI (1 : Int32)] [])) rfl (hb hby d7_0)
  obtain ⟨c2, r2, q2, s2, z2, y2, G2⟩ := id P0
  have hin2 : ¬ ((2 : Int32) < 0 ∨ c2.slots.size ≤ ((2 : Int32)).toNatClampNeg) := inb_of s2 ⟨by decide, by decide⟩
  have hat2 : c2.slots[((2 : Int32)).toNatClampNeg]? = some (.int x2_) := Has.at y2 hin2 rfl
  obtain ⟨T3, X3, e3, st3⟩ := getS2 X1 hx hZ hown (host := "") (Or.inl (own_w hw 60 rfl)) Via.refl e1 (P3.ext O0.2) (g := (mkF m 42 #[lvR o0_, lvI (3 : Int32)] [(.int (x2_ &&& (255 : Int32)))])) rfl (hb hby d7_42)
  obtain ⟨c4, r4, q4, s4, z4, y4, G4⟩ := id P0
  have hin4 : ¬ ((3 : Int32) < 0 ∨ c4.slots.size ≤ ((3 : Int32)).toNatClampNeg) := inb_of s4 ⟨by decide, by decide⟩
  have hat4 : c4.slots[((3 : Int32)).toNatClampNeg]? = some (.int x3_) := Has.at y4 hin4 rfl
  obtain ⟨T5, X5, e5, st5⟩ := getS2 X3 hx hZ hown (host := "") (Or.inl (own_w hw 61 rfl)) Via.refl e3 (P4.ext O0.2) (g := (mkF m 53 #[lvR o0_, lvI (3 : Int32)] [(.int (x3_ &&& (255 : Int32))), (.int ((x2_ &&& (255 : Int32)) <<< ((0 : Int32) &&& 31)))])) rfl (hb hby d7_53)
  have pre6 : ∀ t, own_S p e below m T5 59 #[lvR o0_, lvI (3 : Int32)] [(.int ((((x2_ &&& (255 : Int32)) <<< ((0 : Int32) &&& 31)) ||| ((x3_ &&& (255 : Int32)) <<< ((8 : Int32) &&& 31))).toUInt32.toUInt16.toUInt32.toInt32))] t → G t := by
    intro t kt
    refine pre0 t ?_
    show own_S p e below m s₁ 0 #[lvR o0_, lvI (1 : Int32)] [] _
    refine st1 _ ?_
    show own_S p e below m T1 3 #[lvR o0_, lvI (1 : Int32)] [(.int (1 : Int32))] _
    refine XS.ifYes X1.here hx rfl (pc0 := 3) (pc' := 28) rfl (hb hby d7_3) rfl ((if0 _ _).trans (feq (by decide : ¬ ((1 : Int32) = (0 : Int32)))).2) (by decide) (by decide) ?_
    refine XS.iloadN X1.here hx rfl (hb hby d7_28) rfl ?_
    refine XS.iconst X1.here hx rfl (hb hby d7_29) ?_
    show own_S p e below m T1 30 #[lvR o0_, lvI (1 : Int32)] [(.int (1 : Int32)), (.int (1 : Int32))] _
    refine XS.ishl X1.here hx rfl (hb hby d7_30) rfl ?_
    refine XS.istoreN X1.here hx rfl (hb hby d7_31) rfl (l' := #[lvR o0_, lvI (2 : Int32)]) rfl ?_
    refine XS.aloadN X1.here hx rfl (hb hby d7_32) rfl rfl ?_
    refine XS.iloadN X1.here hx rfl (hb hby d7_33) rfl ?_
    refine XS.iinc X1.here hx rfl (hb hby d7_34) rfl (l' := #[lvR o0_, lvI (3 : Int32)]) rfl ?_
    show own_S p e below m T1 37 #[lvR o0_, lvI (3 : Int32)] [(.int (2 : Int32)), (.ref o0_)] _
    refine X1.baloadBytes hx (j := (2 : Int32)) (v := (.int x2_)) (by rw [e1]; exact r2.1) (State.isArrayOf_alike hZ.alike r2.2.1) r2.2.2 hin2 hat2 (g := (mkF m 37 #[lvR o0_, lvI (3 : Int32)] [(.int (2 : Int32)), (.ref o0_)])) rfl rfl (hb hby d7_37) _ ?_
    refine XS.sipush X1.here hx rfl (hb hby d7_38) ?_
    refine XS.iand X1.here hx rfl (hb hby d7_41) rfl ?_
    show own_S p e below m T1 42 #[lvR o0_, lvI (3 : Int32)] [(.int (x2_ &&& (255 : Int32)))] _
    refine st3 _ ?_
    show own_S p e below m T3 45 #[lvR o0_, lvI (3 : Int32)] [(.int (0 : Int32)), (.int (x2_ &&& (255 : Int32)))] _
    refine XS.ishl X3.here hx rfl (hb hby d7_45) rfl ?_
    refine XS.aloadN X3.here hx rfl (hb hby d7_46) rfl rfl ?_
    refine XS.iloadN X3.here hx rfl (hb hby d7_47) rfl ?_
    show own_S p e below m T3 48 #[lvR o0_, lvI (3 : Int32)] [(.int (3 : Int32)), (.ref o0_), (.int ((x2_ &&& (255 : Int32)) <<< ((0 : Int32) &&& 31)))] _
    refine X3.baloadBytes hx (j := (3 : Int32)) (v := (.int x3_)) (by rw [e3]; exact r4.1) (State.isArrayOf_alike hZ.alike r4.2.1) r4.2.2 hin4 hat4 (g := (mkF m 48 #[lvR o0_, lvI (3 : Int32)] [(.int (3 : Int32)), (.ref o0_), (.int ((x2_ &&& (255 : Int32)) <<< ((0 : Int32) &&& 31)))])) rfl rfl (hb hby d7_48) _ ?_
    refine XS.sipush X3.here hx rfl (hb hby d7_49) ?_
    refine XS.iand X3.here hx rfl (hb hby d7_52) rfl ?_
    show own_S p e below m T3 53 #[lvR o0_, lvI (3 : Int32)] [(.int (x3_ &&& (255 : Int32))), (.int ((x2_ &&& (255 : Int32)) <<< ((0 : Int32) &&& 31)))] _
    refine st5 _ ?_
    show own_S p e below m T5 56 #[lvR o0_, lvI (3 : Int32)] [(.int (8 : Int32)), (.int (x3_ &&& (255 : Int32))), (.int ((x2_ &&& (255 : Int32)) <<< ((0 : Int32) &&& 31)))] _
    refine XS.ishl X5.here hx rfl (hb hby d7_56) rfl ?_
    show own_S p e below m T5 57 #[lvR o0_, lvI (3 : Int32)] [(.int ((x3_ &&& (255 : Int32)) <<< ((8 : Int32) &&& 31))), (.int ((x2_ &&& (255 : Int32)) <<< ((0 : Int32) &&& 31)))] _
    refine XS.ior X5.here hx rfl (hb hby d7_57) rfl ?_
    show own_S p e below m T5 58 #[lvR o0_, lvI (3 : Int32)] [(.int (((x2_ &&& (255 : Int32)) <<< ((0 : Int32) &&& 31)) ||| ((x3_ &&& (255 : Int32)) <<< ((8 : Int32) &&& 31))))] _
    refine XS.i2c X5.here hx rfl (hb hby d7_58) rfl ?_
    exact kt
  obtain ⟨fs, hr, hrun, hended, hW, hsame⟩ := X5.leave (v := some (.int (nar .char ((((x2_ &&& (255 : Int32)) <<< ((0 : Int32) &&& 31)) ||| ((x3_ &&& (255 : Int32)) <<< ((8 : Int32) &&& 31))).toUInt32.toUInt16.toUInt32.toInt32)))) (fun h => by rw [Bd.returns] at h; cases h)
  refine ⟨_, _, hG _ (pre6 _ (retN X5 hx (t := .char) Bd.returns (by simp) (hb hby d7_59) hr)), hrun, hended, _, _, rfl, ?_, ⟨_, rfl⟩, hW, hsame.mono (by decide) (by decide)⟩
  show QgetChar48 Z o0_ ko0_ x0_ x1_ x2_ x3_ x4_ x5_ x6_ x7_ h0 n0 _ T5.heap _
  rw [e5]
  exact ⟨(by rw [own_narc]), N0, rfl⟩
theorem efgetChar49 (m : MethodId) (o0_ : Addr) : entryFrame m #[(.ref o0_), (.int (2 : Int32))] 2 = mkF m 0 #[lvR o0_, lvI (2 : Int32)] [] := by first | (simp [entryFrame, mkF, argsToLocals, Value.category]; done) | rfl
def QgetChar49 (Z : State) (o0_ : Addr) (ko0_ : ClassId) (x0_ : Int32) (x1_ : Int32) (x2_ : Int32) (x3_ : Int32) (x4_ : Int32) (x5_ : Int32) (x6_ : Int32) (x7_ : Int32) (h0 : Heap) (n0 : Nat) (v : Option Value) (h : Heap) (L : List Loc) : Prop := v = some (.int ((((x4_ &&& (255 : Int32)) <<< ((0 : Int32) &&& 31)) ||| ((x5_ &&& (255 : Int32)) <<< ((8 : Int32) &&& 31))).toUInt32.toUInt16.toUInt32.toInt32)) ∧ Fr n0 L ∧ h = h0
set_option maxRecDepth 65536 in
set_option maxHeartbeats 40000000 in
theorem rmgetChar49 (l : Launch) (Z : State) (a0 : Array Value) (hw : ∀ d ∈ tables_1, d.before a0 Z = true) (ws : List Jvm.Cond) (o0_ : Addr) (ko0_ : ClassId) (x0_ : Int32) (x1_ : Int32) (x2_ : Int32) (x3_ : Int32) (x4_ : Int32) (x5_ : Int32) (x6_ : Int32) (x7_ : Int32) (h0 : Heap) (n0 : Nat) (O0 : Old Z n0 h0) (P0 : Arv Z h0 o0_ ko0_ .byte (8 : Int32) [(.int x0_), (.int x1_), (.int x2_), (.int x3_), (.int x4_), (.int x5_), (.int x6_), (.int x7_)] (.int (0 : Int32))) (P1 : Exa Z h0 o0_ "[B") (P2 : Sta Z Z.heap "java/lang/StringUTF16" "$assertionsDisabled" "Z" (.int (1 : Int32))) (P3 : Sta Z Z.heap "java/lang/StringUTF16" "HI_BYTE_SHIFT" "I" (.int (0 : Int32))) (P4 : Sta Z Z.heap "java/lang/StringUTF16" "LO_BYTE_SHIFT" "I" (.int (8 : Int32))) :
    MetFree l (⟨"java/lang/StringUTF16", "getChar", "([BI)C"⟩ : MethodName) (head1 (Jvm.Cond.code (⟨"java/lang/StringUTF16", "getChar", "([BI)C"⟩ : MethodName) jdk_52_method_5_code 2 (some .char) :: ws) ({ frames := 0, cells := 0, slots := 0, locals := 0 } : Room)) (fun a U => a = #[(.ref o0_), (.int (2 : Int32))] ∧ Z.Warmed39 U.vm ∧ U.heap = h0) (fun _ _ _ _ _ => True) (fun _ U o U' => ∃ v L, o = .returned v ∧ QgetChar49 Z o0_ ko0_ x0_ x1_ x2_ x3_ x4_ x5_ x6_ x7_ h0 n0 v U'.heap L ∧ FrameEnd U o U' L ({ frames := 0, cells := 0, slots := 0, locals := 0 } : Room).cells ({ frames := 0, cells := 0, slots := 0, locals := 0 } : Room).slots) := by
  refine MetFree.of_bodySF (plainFor_of_name pn_0) hisR ?_
  intro p e s m args below meth c s₁ Bd hml0 hP hK
  obtain ⟨rfl, hZ, hh⟩ := hP
  have hx := Bd.exec
  have hby := Bd.bytes
  have hml : c.maxLocals = 2 := hml0
  have hown : s.vm.findClass "java/lang/StringUTF16" = some m.cls := findClass_of_methodNamed Bd.named
  have hnm := (name_of_methodNamed Bd.named Bd.method).1
  have X0 : Stand p l e ({ frames := 0, cells := 0, slots := 0, locals := 0 } : Room) s m #[(.ref o0_), (.int (2 : Int32))] below meth c s₁ [] 0 0 := Stand.of_body Bd
  have e0 : s₁.heap = h0 := by rw [← hh, Bd.state]; rfl
  have N0 := Fr.nil n0
  obtain ⟨G, pre0, hG⟩ : ∃ G : State → Prop, (∀ t, own_S p e below m s₁ 0 #[lvR o0_, lvI (2 : Int32)] [] t → G t) ∧ (∀ t, G t → Steps p.tables e below (s₁.setTop (entryFrame m #[(.ref o0_), (.int (2 : Int32))] 2)) t) := ⟨fun t => Steps p.tables e below (s₁.setTop (entryFrame m #[(.ref o0_), (.int (2 : Int32))] 2)) t, fun t k => castTop (efgetChar49 m o0_) k, fun _ k => k⟩
  have K0 : Keep h0 h0 [] := Keep.refl _ _
  obtain ⟨T1, X1, e1, st1⟩ := getS2 X0 hx hZ hown (host := "") (Or.inl (own_w hw 59 rfl)) Via.refl e0 (P2.ext O0.2) (g := (mkF m 0 #[lvR o0_, lvI (2 : Int32)] [])) rfl (hb hby d7_0)
  obtain ⟨c2, r2, q2, s2, z2, y2, G2⟩ := id P0
  have hin2 : ¬ ((4 : Int32) < 0 ∨ c2.slots.size ≤ ((4 : Int32)).toNatClampNeg) := inb_of s2 ⟨by decide, by decide⟩
  have hat2 : c2.slots[((4 : Int32)).toNatClampNeg]? = some (.int x4_) := Has.at y2 hin2 rfl
  obtain ⟨T3, X3, e3, st3⟩ := getS2 X1 hx hZ hown (host := "") (Or.inl (own_w hw 60 rfl)) Via.refl e1 (P3.ext O0.2) (g := (mkF m 42 #[lvR o0_, lvI (5 : Int32)] [(.int (x4_ &&& (255 : Int32)))])) rfl (hb hby d7_42)
  obtain ⟨c4, r4, q4, s4, z4, y4, G4⟩ := id P0
  have hin4 : ¬ ((5 : Int32) < 0 ∨ c4.slots.size ≤ ((5 : Int32)).toNatClampNeg) := inb_of s4 ⟨by decide, by decide⟩
  have hat4 : c4.slots[((5 : Int32)).toNatClampNeg]? = some (.int x5_) := Has.at y4 hin4 rfl
  obtain ⟨T5, X5, e5, st5⟩ := getS2 X3 hx hZ hown (host := "") (Or.inl (own_w hw 61 rfl)) Via.refl e3 (P4.ext O0.2) (g := (mkF m 53 #[lvR o0_, lvI (5 : Int32)] [(.int (x5_ &&& (255 : Int32))), (.int ((x4_ &&& (255 : Int32)) <<< ((0 : Int32) &&& 31)))])) rfl (hb hby d7_53)
  have pre6 : ∀ t, own_S p e below m T5 59 #[lvR o0_, lvI (5 : Int32)] [(.int ((((x4_ &&& (255 : Int32)) <<< ((0 : Int32) &&& 31)) ||| ((x5_ &&& (255 : Int32)) <<< ((8 : Int32) &&& 31))).toUInt32.toUInt16.toUInt32.toInt32))] t → G t := by
    intro t kt
    refine pre0 t ?_
    show own_S p e below m s₁ 0 #[lvR o0_, lvI (2 : Int32)] [] _
    refine st1 _ ?_
    show own_S p e below m T1 3 #[lvR o0_, lvI (2 : Int32)] [(.int (1 : Int32))] _
    refine XS.ifYes X1.here hx rfl (pc0 := 3) (pc' := 28) rfl (hb hby d7_3) rfl ((if0 _ _).trans (feq (by decide : ¬ ((1 : Int32) = (0 : Int32)))).2) (by decide) (by decide) ?_
    refine XS.iloadN X1.here hx rfl (hb hby d7_28) rfl ?_
    refine XS.iconst X1.here hx rfl (hb hby d7_29) ?_
    show own_S p e below m T1 30 #[lvR o0_, lvI (2 : Int32)] [(.int (1 : Int32)), (.int (2 : Int32))] _
    refine XS.ishl X1.here hx rfl (hb hby d7_30) rfl ?_
    refine XS.istoreN X1.here hx rfl (hb hby d7_31) rfl (l' := #[lvR o0_, lvI (4 : Int32)]) rfl ?_
    refine XS.aloadN X1.here hx rfl (hb hby d7_32) rfl rfl ?_
    refine XS.iloadN X1.here hx rfl (hb hby d7_33) rfl ?_
    refine XS.iinc X1.here hx rfl (hb hby d7_34) rfl (l' := #[lvR o0_, lvI (5 : Int32)]) rfl ?_
    show own_S p e below m T1 37 #[lvR o0_, lvI (5 : Int32)] [(.int (4 : Int32)), (.ref o0_)] _
    refine X1.baloadBytes hx (j := (4 : Int32)) (v := (.int x4_)) (by rw [e1]; exact r2.1) (State.isArrayOf_alike hZ.alike r2.2.1) r2.2.2 hin2 hat2 (g := (mkF m 37 #[lvR o0_, lvI (5 : Int32)] [(.int (4 : Int32)), (.ref o0_)])) rfl rfl (hb hby d7_37) _ ?_
    refine XS.sipush X1.here hx rfl (hb hby d7_38) ?_
    refine XS.iand X1.here hx rfl (hb hby d7_41) rfl ?_
    show own_S p e below m T1 42 #[lvR o0_, lvI (5 : Int32)] [(.int (x4_ &&& (255 : Int32)))] _
    refine st3 _ ?_
    show own_S p e below m T3 45 #[lvR o0_, lvI (5 : Int32)] [(.int (0 : Int32)), (.int (x4_ &&& (255 : Int32)))] _
    refine XS.ishl X3.here hx rfl (hb hby d7_45) rfl ?_
    refine XS.aloadN X3.here hx rfl (hb hby d7_46) rfl rfl ?_
    refine XS.iloadN X3.here hx rfl (hb hby d7_47) rfl ?_
    show own_S p e below m T3 48 #[lvR o0_, lvI (5 : Int32)] [(.int (5 : Int32)), (.ref o0_), (.int ((x4_ &&& (255 : Int32)) <<< ((0 : Int32) &&& 31)))] _
    refine X3.baloadBytes hx (j := (5 : Int32)) (v := (.int x5_)) (by rw [e3]; exact r4.1) (State.isArrayOf_alike hZ.alike r4.2.1) r4.2.2 hin4 hat4 (g := (mkF m 48 #[lvR o0_, lvI (5 : Int32)] [(.int (5 : Int32)), (.ref o0_), (.int ((x4_ &&& (255 : Int32)) <<< ((0 : Int32) &&& 31)))])) rfl rfl (hb hby d7_48) _ ?_
    refine XS.sipush X3.here hx rfl (hb hby d7_49) ?_
    refine XS.iand X3.here hx rfl (hb hby d7_52) rfl ?_
    show own_S p e below m T3 53 #[lvR o0_, lvI (5 : Int32)] [(.int (x5_ &&& (255 : Int32))), (.int ((x4_ &&& (255 : Int32)) <<< ((0 : Int32) &&& 31)))] _
    refine st5 _ ?_
    show own_S p e below m T5 56 #[lvR o0_, lvI (5 : Int32)] [(.int (8 : Int32)), (.int (x5_ &&& (255 : Int32))), (.int ((x4_ &&& (255 : Int32)) <<< ((0 : Int32) &&& 31)))] _
    refine XS.ishl X5.here hx rfl (hb hby d7_56) rfl ?_
    show own_S p e below m T5 57 #[lvR o0_, lvI (5 : Int32)] [(.int ((x5_ &&& (255 : Int32)) <<< ((8 : Int32) &&& 31))), (.int ((x4_ &&& (255 : Int32)) <<< ((0 : Int32) &&& 31)))] _
    refine XS.ior X5.here hx rfl (hb hby d7_57) rfl ?_
    show own_S p e below m T5 58 #[lvR o0_, lvI (5 : Int32)] [(.int (((x4_ &&& (255 : Int32)) <<< ((0 : Int32) &&& 31)) ||| ((x5_ &&& (255 : Int32)) <<< ((8 : Int32) &&& 31))))] _
    refine XS.i2c X5.here hx rfl (hb hby d7_58) rfl ?_
    exact kt
  obtain ⟨fs, hr, hrun, hended, hW, hsame⟩ := X5.leave (v := some (.int (nar .char ((((x4_ &&& (255 : Int32)) <<< ((0 : Int32) &&& 31)) ||| ((x5_ &&& (255 : Int32)) <<< ((8 : Int32) &&& 31))).toUInt32.toUInt16.toUInt32.toInt32)))) (fun h => by rw [Bd.returns] at h; cases h)
  refine ⟨_, _, hG _ (pre6 _ (retN X5 hx (t := .char) Bd.returns (by simp) (hb hby d7_59) hr)), hrun, hended, _, _, rfl, ?_, ⟨_, rfl⟩, hW, hsame.mono (by decide) (by decide)⟩
  show QgetChar49 Z o0_ ko0_ x0_ x1_ x2_ x3_ x4_ x5_ x6_ x7_ h0 n0 _ T5.heap _
  rw [e5]
  exact ⟨(by rw [own_narc]), N0, rfl⟩
theorem efgetChar50 (m : MethodId) (o0_ : Addr) : entryFrame m #[(.ref o0_), (.int (3 : Int32))] 2 = mkF m 0 #[lvR o0_, lvI (3 : Int32)] [] := by first | (simp [entryFrame, mkF, argsToLocals, Value.category]; done) | rfl
def QgetChar50 (Z : State) (o0_ : Addr) (ko0_ : ClassId) (x0_ : Int32) (x1_ : Int32) (x2_ : Int32) (x3_ : Int32) (x4_ : Int32) (x5_ : Int32) (x6_ : Int32) (x7_ : Int32) (h0 : Heap) (n0 : Nat) (v : Option Value) (h : Heap) (L : List Loc) : Prop := v = some (.int ((((x6_ &&& (255 : Int32)) <<< ((0 : Int32) &&& 31)) ||| ((x7_ &&& (255 : Int32)) <<< ((8 : Int32) &&& 31))).toUInt32.toUInt16.toUInt32.toInt32)) ∧ Fr n0 L ∧ h = h0
set_option maxRecDepth 65536 in
set_option maxHeartbeats 40000000 in
theorem rmgetChar50 (l : Launch) (Z : State) (a0 : Array Value) (hw : ∀ d ∈ tables_1, d.before a0 Z = true) (ws : List Jvm.Cond) (o0_ : Addr) (ko0_ : ClassId) (x0_ : Int32) (x1_ : Int32) (x2_ : Int32) (x3_ : Int32) (x4_ : Int32) (x5_ : Int32) (x6_ : Int32) (x7_ : Int32) (h0 : Heap) (n0 : Nat) (O0 : Old Z n0 h0) (P0 : Arv Z h0 o0_ ko0_ .byte (8 : Int32) [(.int x0_), (.int x1_), (.int x2_), (.int x3_), (.int x4_), (.int x5_), (.int x6_), (.int x7_)] (.int (0 : Int32))) (P1 : Exa Z h0 o0_ "[B") (P2 : Sta Z Z.heap "java/lang/StringUTF16" "$assertionsDisabled" "Z" (.int (1 : Int32))) (P3 : Sta Z Z.heap "java/lang/StringUTF16" "HI_BYTE_SHIFT" "I" (.int (0 : Int32))) (P4 : Sta Z Z.heap "java/lang/StringUTF16" "LO_BYTE_SHIFT" "I" (.int (8 : Int32))) :
    MetFree l (⟨"java/lang/StringUTF16", "getChar", "([BI)C"⟩ : MethodName) (head1 (Jvm.Cond.code (⟨"java/lang/StringUTF16", "getChar", "([BI)C"⟩ : MethodName) jdk_52_method_5_code 2 (some .char) :: ws) ({ frames := 0, cells := 0, slots := 0, locals := 0 } : Room)) (fun a U => a = #[(.ref o0_), (.int (3 : Int32))] ∧ Z.Warmed39 U.vm ∧ U.heap = h0) (fun _ _ _ _ _ => True) (fun _ U o U' => ∃ v L, o = .returned v ∧ QgetChar50 Z o0_ ko0_ x0_ x1_ x2_ x3_ x4_ x5_ x6_ x7_ h0 n0 v U'.heap L ∧ FrameEnd U o U' L ({ frames := 0, cells := 0, slots := 0, locals := 0 } : Room).cells ({ frames := 0, cells := 0, slots := 0, locals := 0 } : Room).slots) := by
  refine MetFree.of_bodySF (plainFor_of_name pn_0) hisR ?_
  intro p e s m args below meth c s₁ Bd hml0 hP hK
  obtain ⟨rfl, hZ, hh⟩ := hP
  have hx := Bd.exec
  have hby := Bd.bytes
  have hml : c.maxLocals = 2 := hml0
  have hown : s.vm.findClass "java/lang/StringUTF16" = some m.cls := findClass_of_methodNamed Bd.named
  have hnm := (name_of_methodNamed Bd.named Bd.method).1
  have X0 : Stand p l e ({ frames := 0, cells := 0, slots := 0, locals := 0 } : Room) s m #[(.ref o0_), (.int (3 : Int32))] below meth c s₁ [] 0 0 := Stand.of_body Bd
  have e0 : s₁.heap = h0 := by rw [← hh, Bd.state]; rfl
  have N0 := Fr.nil n0
  obtain ⟨G, pre0, hG⟩ : ∃ G : State → Prop, (∀ t, own_S p e below m s₁ 0 #[lvR o0_, lvI (3 : Int32)] [] t → G t) ∧ (∀ t, G t → Steps p.tables e below (s₁.setTop (entryFrame m #[(.ref o0_), (.int (3 : Int32))] 2)) t) := ⟨fun t => Steps p.tables e below (s₁.setTop (entryFrame m #[(.ref o0_), (.int (3 : Int32))] 2)) t, fun t k => castTop (efgetChar50 m o0_) k, fun _ k => k⟩
  have K0 : Keep h0 h0 [] := Keep.refl _ _
  obtain ⟨T1, X1, e1, st1⟩ := getS2 X0 hx hZ hown (host := "") (Or.inl (own_w hw 59 rfl)) Via.refl e0 (P2.ext O0.2) (g := (mkF m 0 #[lvR o0_, lvI (3 : Int32)] [])) rfl (hb hby d7_0)
  obtain ⟨c2, r2, q2, s2, z2, y2, G2⟩ := id P0
  have hin2 : ¬ ((6 : Int32) < 0 ∨ c2.slots.size ≤ ((6 : Int32)).toNatClampNeg) := inb_of s2 ⟨by decide, by decide⟩
  have hat2 : c2.slots[((6 : Int32)).toNatClampNeg]? = some (.int x6_) := Has.at y2 hin2 rfl
  obtain ⟨T3, X3, e3, st3⟩ := getS2 X1 hx hZ hown (host := "") (Or.inl (own_w hw 60 rfl)) Via.refl e1 (P3.ext O0.2) (g := (mkF m 42 #[lvR o0_, lvI (7 : Int32)] [(.int (x6_ &&& (255 : Int32)))])) rfl (hb hby d7_42)
  obtain ⟨c4, r4, q4, s4, z4, y4, G4⟩ := id P0
  have hin4 : ¬ ((7 : Int32) < 0 ∨ c4.slots.size ≤ ((7 : Int32)).toNatClampNeg) := inb_of s4 ⟨by decide, by decide⟩
  have hat4 : c4.slots[((7 : Int32)).toNatClampNeg]? = some (.int x7_) := Has.at y4 hin4 rfl
  obtain ⟨T5, X5, e5, st5⟩ := getS2 X3 hx hZ hown (host := "") (Or.inl (own_w hw 61 rfl)) Via.refl e3 (P4.ext O0.2) (g := (mkF m 53 #[lvR o0_, lvI (7 : Int32)] [(.int (x7_ &&& (255 : Int32))), (.int ((x6_ &&& (255 : Int32)) <<< ((0 : Int32) &&& 31)))])) rfl (hb hby d7_53)
  have pre6 : ∀ t, own_S p e below m T5 59 #[lvR o0_, lvI (7 : Int32)] [(.int ((((x6_ &&& (255 : Int32)) <<< ((0 : Int32) &&& 31)) ||| ((x7_ &&& (255 : Int32)) <<< ((8 : Int32) &&& 31))).toUInt32.toUInt16.toUInt32.toInt32))] t → G t := by
    intro t kt
    refine pre0 t ?_
    show own_S p e below m s₁ 0 #[lvR o0_, lvI (3 : Int32)] [] _
    refine st1 _ ?_
    show own_S p e below m T1 3 #[lvR o0_, lvI (3 : Int32)] [(.int (1 : Int32))] _
    refine XS.ifYes X1.here hx rfl (pc0 := 3) (pc' := 28) rfl (hb hby d7_3) rfl ((if0 _ _).trans (feq (by decide : ¬ ((1 : Int32) = (0 : Int32)))).2) (by decide) (by decide) ?_
    refine XS.iloadN X1.here hx rfl (hb hby d7_28) rfl ?_
    refine XS.iconst X1.here hx rfl (hb hby d7_29) ?_
    show own_S p e below m T1 30 #[lvR o0_, lvI (3 : Int32)] [(.int (1 : Int32)), (.int (3 : Int32))] _
    refine XS.ishl X1.here hx rfl (hb hby d7_30) rfl ?_
    refine XS.istoreN X1.here hx rfl (hb hby d7_31) rfl (l' := #[lvR o0_, lvI (6 : Int32)]) rfl ?_
    refine XS.aloadN X1.here hx rfl (hb hby d7_32) rfl rfl ?_
    refine XS.iloadN X1.here hx rfl (hb hby d7_33) rfl ?_
    refine XS.iinc X1.here hx rfl (hb hby d7_34) rfl (l' := #[lvR o0_, lvI (7 : Int32)]) rfl ?_
    show own_S p e below m T1 37 #[lvR o0_, lvI (7 : Int32)] [(.int (6 : Int32)), (.ref o0_)] _
    refine X1.baloadBytes hx (j := (6 : Int32)) (v := (.int x6_)) (by rw [e1]; exact r2.1) (State.isArrayOf_alike hZ.alike r2.2.1) r2.2.2 hin2 hat2 (g := (mkF m 37 #[lvR o0_, lvI (7 : Int32)] [(.int (6 : Int32)), (.ref o0_)])) rfl rfl (hb hby d7_37) _ ?_
    refine XS.sipush X1.here hx rfl (hb hby d7_38) ?_
    refine XS.iand X1.here hx rfl (hb hby d7_41) rfl ?_
    show own_S p e below m T1 42 #[lvR o0_, lvI (7 : Int32)] [(.int (x6_ &&& (255 : Int32)))] _
    refine st3 _ ?_
    show own_S p e below m T3 45 #[lvR o0_, lvI (7 : Int32)] [(.int (0 : Int32)), (.int (x6_ &&& (255 : Int32)))] _
    refine XS.ishl X3.here hx rfl (hb hby d7_45) rfl ?_
    refine XS.aloadN X3.here hx rfl (hb hby d7_46) rfl rfl ?_
    refine XS.iloadN X3.here hx rfl (hb hby d7_47) rfl ?_
    show own_S p e below m T3 48 #[lvR o0_, lvI (7 : Int32)] [(.int (7 : Int32)), (.ref o0_), (.int ((x6_ &&& (255 : Int32)) <<< ((0 : Int32) &&& 31)))] _
    refine X3.baloadBytes hx (j := (7 : Int32)) (v := (.int x7_)) (by rw [e3]; exact r4.1) (State.isArrayOf_alike hZ.alike r4.2.1) r4.2.2 hin4 hat4 (g := (mkF m 48 #[lvR o0_, lvI (7 : Int32)] [(.int (7 : Int32)), (.ref o0_), (.int ((x6_ &&& (255 : Int32)) <<< ((0 : Int32) &&& 31)))])) rfl rfl (hb hby d7_48) _ ?_
    refine XS.sipush X3.here hx rfl (hb hby d7_49) ?_
    refine XS.iand X3.here hx rfl (hb hby d7_52) rfl ?_
    show own_S p e below m T3 53 #[lvR o0_, lvI (7 : Int32)] [(.int (x7_ &&& (255 : Int32))), (.int ((x6_ &&& (255 : Int32)) <<< ((0 : Int32) &&& 31)))] _
    refine st5 _ ?_
    show own_S p e below m T5 56 #[lvR o0_, lvI (7 : Int32)] [(.int (8 : Int32)), (.int (x7_ &&& (255 : Int32))), (.int ((x6_ &&& (255 : Int32)) <<< ((0 : Int32) &&& 31)))] _
    refine XS.ishl X5.here hx rfl (hb hby d7_56) rfl ?_
    show own_S p e below m T5 57 #[lvR o0_, lvI (7 : Int32)] [(.int ((x7_ &&& (255 : Int32)) <<< ((8 : Int32) &&& 31))), (.int ((x6_ &&& (255 : Int32)) <<< ((0 : Int32) &&& 31)))] _
    refine XS.ior X5.here hx rfl (hb hby d7_57) rfl ?_
    show own_S p e below m T5 58 #[lvR o0_, lvI (7 : Int32)] [(.int (((x6_ &&& (255 : Int32)) <<< ((0 : Int32) &&& 31)) ||| ((x7_ &&& (255 : Int32)) <<< ((8 : Int32) &&& 31))))] _
    refine XS.i2c X5.here hx rfl (hb hby d7_58) rfl ?_
    exact kt
  obtain ⟨fs, hr, hrun, hended, hW, hsame⟩ := X5.leave (v := some (.int (nar .char ((((x6_ &&& (255 : Int32)) <<< ((0 : Int32) &&& 31)) ||| ((x7_ &&& (255 : Int32)) <<< ((8 : Int32) &&& 31))).toUInt32.toUInt16.toUInt32.toInt32)))) (fun h => by rw [Bd.returns] at h; cases h)
  refine ⟨_, _, hG _ (pre6 _ (retN X5 hx (t := .char) Bd.returns (by simp) (hb hby d7_59) hr)), hrun, hended, _, _, rfl, ?_, ⟨_, rfl⟩, hW, hsame.mono (by decide) (by decide)⟩
  show QgetChar50 Z o0_ ko0_ x0_ x1_ x2_ x3_ x4_ x5_ x6_ x7_ h0 n0 _ T5.heap _
  rw [e5]
  exact ⟨(by rw [own_narc]), N0, rfl⟩
theorem efCq4 (m : MethodId) (sr_ : Addr) : entryFrame m #[(.ref sr_), (.int (0 : Int32)), (.int (4 : Int32))] 6 = mkF m 0 #[lvR sr_, lvI (0 : Int32), lvI (4 : Int32), .unset, .unset, .unset] [] := by first | (simp [entryFrame, mkF, argsToLocals, Value.category]; done) | rfl
def QCq4 (Z : State) (sr_ : Addr) (ks_ : ClassId) (x0_ : Int32) (x1_ : Int32) (x2_ : Int32) (x3_ : Int32) (w_COMPACT_STRINGS : Int32) (h0 : Heap) (n0 : Nat) (v : Option Value) (h : Heap) (L : List Loc) : Prop := ∃ k_w : ClassId, ∃ z_w : Int32, ∃ vs_w : List Value, ∃ nw_ : Addr, v = some (.ref nw_) ∧ Fr n0 L ∧ Keep h0 h [] ∧ h0.size ≤ nw_ ∧ Exa Z h nw_ "[B" ∧ Arv Z h nw_ k_w .byte z_w vs_w (.int (0 : Int32)) ∧ own_two (4 : Int32) z_w
set_option maxRecDepth 65536 in
set_option maxHeartbeats 40000000 in
theorem rmCq4 (l : Launch) (Z : State) (a0 : Array Value) (hw : ∀ d ∈ tables_1, d.before a0 Z = true) (ws : List Jvm.Cond) (sr_ : Addr) (ks_ : ClassId) (x0_ : Int32) (x1_ : Int32) (x2_ : Int32) (x3_ : Int32) (w_COMPACT_STRINGS : Int32) (h0 : Heap) (n0 : Nat) (O0 : Old Z n0 h0) (hc0_ : own_chr x0_) (hc1_ : own_chr x1_) (hc2_ : own_chr x2_) (hc3_ : own_chr x3_) (hz_0 : ¬ (w_COMPACT_STRINGS = (0 : Int32))) (P5 : Arv Z h0 sr_ ks_ .char (4 : Int32) [(.int x0_), (.int x1_), (.int x2_), (.int x3_)] (.int (0 : Int32))) (P6 : Sta Z Z.heap "java/lang/String" "COMPACT_STRINGS" "Z" (.int w_COMPACT_STRINGS)) (P7 : Sta Z Z.heap "java/lang/StringUTF16" "$assertionsDisabled" "Z" (.int (1 : Int32))) (P8 : Sta Z Z.heap "java/lang/StringUTF16" "HI_BYTE_SHIFT" "I" (.int (0 : Int32))) (P9 : Sta Z Z.heap "java/lang/StringUTF16" "LO_BYTE_SHIFT" "I" (.int (8 : Int32))) :
    MetFree l (⟨"java/lang/StringUTF16", "compress", "([CII)[B"⟩ : MethodName) (head1 (Jvm.Cond.code (⟨"java/lang/StringUTF16", "compress", "([CII)[B"⟩ : MethodName) jdk_52_method_16_code 6 (some (.array .byte)) :: ws) ({ frames := 3, cells := 2, slots := 12, locals := 40 } : Room)) (fun a U => a = #[(.ref sr_), (.int (0 : Int32)), (.int (4 : Int32))] ∧ Z.Warmed39 U.vm ∧ U.heap = h0) (fun _ _ _ _ _ => True) (fun _ U o U' => ∃ v L, o = .returned v ∧ QCq4 Z sr_ ks_ x0_ x1_ x2_ x3_ w_COMPACT_STRINGS h0 n0 v U'.heap L ∧ FrameEnd U o U' L ({ frames := 3, cells := 2, slots := 12, locals := 40 } : Room).cells ({ frames := 3, cells := 2, slots := 12, locals := 40 } : Room).slots) := by
  refine MetFree.of_bodySF (plainFor_of_name pn_0) hisR ?_
  intro p e s m args below meth c s₁ Bd hml0 hP hK
  obtain ⟨rfl, hZ, hh⟩ := hP
  have hx := Bd.exec
  have hby := Bd.bytes
  have hml : c.maxLocals = 6 := hml0
  have hown : s.vm.findClass "java/lang/StringUTF16" = some m.cls := findClass_of_methodNamed Bd.named
  have hnm := (name_of_methodNamed Bd.named Bd.method).1
  have X0 : Stand p l e ({ frames := 3, cells := 2, slots := 12, locals := 40 } : Room) s m #[(.ref sr_), (.int (0 : Int32)), (.int (4 : Int32))] below meth c s₁ [] 0 0 := Stand.of_body Bd
  have e0 : s₁.heap = h0 := by rw [← hh, Bd.state]; rfl
  have N0 := Fr.nil n0
  obtain ⟨G, pre0, hG⟩ : ∃ G : State → Prop, (∀ t, own_S p e below m s₁ 0 #[lvR sr_, lvI (0 : Int32), lvI (4 : Int32), .unset, .unset, .unset] [] t → G t) ∧ (∀ t, G t → Steps p.tables e below (s₁.setTop (entryFrame m #[(.ref sr_), (.int (0 : Int32)), (.int (4 : Int32))] 6)) t) := ⟨fun t => Steps p.tables e below (s₁.setTop (entryFrame m #[(.ref sr_), (.int (0 : Int32)), (.int (4 : Int32))] 6)) t, fun t k => castTop (efCq4 m sr_) k, fun _ k => k⟩
  have K0 : Keep h0 h0 [] := Keep.refl _ _
  obtain ⟨T1, h1, k1, X1, e1, E1, A1, Z1, st1⟩ := newPE X0 hx hZ (own_w hw 19 rfl) e0 (g := (mkF m 1 #[lvR sr_, lvI (0 : Int32), lvI (4 : Int32), .unset, .unset, .unset] [(.int (4 : Int32))])) rfl (hb hby d2_1) rfl (by decide) (cap := 4) (by decide) (by decide) (by decide) (by decide) (ad := "[B") (by decide)
  obtain ⟨b1, g1⟩ : ∃ z, z = h0.size := ⟨_, rfl⟩
  rw [← g1] at A1 Z1 st1
  have ge2 : n0 ≤ b1 := Nat.le_trans (Nat.le_trans (Nat.le_of_eq O0.1.symm) O0.2.1) (Nat.le_of_eq g1.symm)
  have sz3 : h0.size ≤ b1 := Nat.le_trans K0.1 (Nat.le_of_eq g1.symm)
  have f4 : Arv Z h1 b1 k1 .byte (4 : Int32) [(.int (0 : Int32)), (.int (0 : Int32)), (.int (0 : Int32)), (.int (0 : Int32))] (.int (0 : Int32)) := (Arv.new A1 (by decide)).pad (pad_rep [] (.int (0 : Int32)) 4)
  have f6 : Arv Z h1 sr_ ks_ .char (4 : Int32) [(.int x0_), (.int x1_), (.int x2_), (.int x3_)] (.int (0 : Int32)) := P5.ext E1
  have ne7 : sr_ ≠ b1 := Nat.ne_of_lt (Nat.lt_of_lt_of_le P5.lt (Nat.le_of_eq g1.symm))
  have f8 : Old Z n0 h1 := O0.ext E1
  obtain ⟨_, _, ⟨T5, L5, k5, n5⟩, -, X5, ⟨Lc5, hQ5, l5, y5, z5⟩, st5⟩ := Jvm.LawKit.callS X1 hx (y := (⟨"java/lang/StringUTF16", "compress", "([CI[BII)I"⟩ : MethodName)) hown (mvT hZ (own_w hw 20 rfl)) (mvT hZ (own_w hw 21 rfl)) (mvT hZ (own_w hw 17 rfl)) (mvT hZ (own_w hw 22 rfl)) (by decide) (backOf (W := 0) (rmCp4 l Z a0 hw [] sr_ ks_ b1 k1 x0_ x1_ x2_ x3_ h1 n0 f8 f6 f4 ge2 ne7) hZ (own_w hw 22 rfl) (own_w hw 17 rfl) (by decide) (by decide)) (g := (mkF m 9 #[lvR sr_, lvI (0 : Int32), lvI (4 : Int32), lvR b1, .unset, .unset] [(.int (4 : Int32)), (.int (0 : Int32)), (.ref b1), (.int (0 : Int32)), (.ref sr_)])) rfl (by rw [hml]; rfl) (argsL := [(.ref sr_), (.int (0 : Int32)), (.ref b1), (.int (0 : Int32)), (.int (4 : Int32))]) (rest := []) (lenOf pd_0 rfl) rfl (by show 2 * 0 + _ ≤ _; exact Nat.le_of_eq rfl) (hb hby d2_9) (fun _ _ => ⟨rfl, e1, (by decide : 1 + 0 ≤ _), (by decide : 4 + 0 ≤ _)⟩)
  dsimp only [Pt.U, Pt.locs, Pt.cells, Pt.slots] at X5 l5 y5 z5 st5 hQ5
  subst l5 y5 z5
  obtain ⟨h5, e5⟩ : ∃ z, T5.heap = z := ⟨_, rfl⟩
  rw [e5] at hQ5
  obtain ⟨vs_w_5, rr5, rfl, hs5, N5q, K5, g5_0⟩ := hQ5
  have N9 := Fr.app N0 N5q
  rcases hs5 with ⟨rfl, hq5_0_0⟩ | ⟨rfl, hq5_1_0, hq5_1_1⟩ | ⟨rfl, hq5_2_0, hq5_2_1, hq5_2_2⟩ | ⟨rfl, hq5_3_0, hq5_3_1, hq5_3_2, hq5_3_3⟩ | ⟨rfl, hq5_4_0, hq5_4_1, hq5_4_2, hq5_4_3⟩
  · have f11 : Arv Z h5 sr_ ks_ .char (4 : Int32) [(.int x0_), (.int x1_), (.int x2_), (.int x3_)] (.int (0 : Int32)) := f6.keep K5 (ninS ne7 nin0)
    have f12 : Old Z n0 h5 := f8.keep K5 (allS (ge2) all0)
    obtain ⟨_, _, ⟨T10, L10, k10, n10⟩, -, X10, ⟨Lc10, hQ10, l10, y10, z10⟩, st10⟩ := Jvm.LawKit.callS X5 hx (y := (⟨"java/lang/StringUTF16", "toBytes", "([CII)[B"⟩ : MethodName)) hown (mvT hZ (own_w hw 46 rfl)) (mvT hZ (own_w hw 47 rfl)) (mvT hZ (own_w hw 17 rfl)) (mvT hZ (own_w hw 48 rfl)) (by decide) (backOf (W := 0) (rmtoBytes37 l Z a0 hw [] sr_ ks_ x0_ x1_ x2_ x3_ h5 n0 f12 f11 P7 P8 P9) hZ (own_w hw 48 rfl) (own_w hw 17 rfl) (by decide) (by decide)) (g := (mkF m 23 #[lvR sr_, lvI (0 : Int32), lvI (4 : Int32), lvR b1, lvI (0 : Int32), .unset] [(.int (4 : Int32)), (.int (0 : Int32)), (.ref sr_)])) rfl (by rw [hml]; rfl) (argsL := [(.ref sr_), (.int (0 : Int32)), (.int (4 : Int32))]) (rest := []) (lenOf pd_4 rfl) rfl (by show 2 * 0 + _ ≤ _; exact Nat.le_of_eq rfl) (hb hby d2_23) (fun _ _ => ⟨rfl, e5, (by decide : 1 + 1 ≤ _), (by decide : 4 + 8 ≤ _)⟩)
    dsimp only [Pt.U, Pt.locs, Pt.cells, Pt.slots] at X10 l10 y10 z10 st10 hQ10
    subst l10 y10 z10
    obtain ⟨h10, e10⟩ : ∃ z, T10.heap = z := ⟨_, rfl⟩
    rw [e10] at hQ10
    obtain ⟨k3_1_10, nnb3_1_10, rfl, N10q, K10, sznnb3_1_10, g10_0, g10_1⟩ := hQ10
    have N13 := Fr.app N9 N10q
    have ge14 : n0 ≤ nnb3_1_10 := Nat.le_trans (Nat.le_trans (Nat.le_of_eq f12.1.symm) f12.2.1) sznnb3_1_10
    have f15 : Keep h0 h1 [] := K0.ext E1
    have f16 : Keep h0 h5 [] := f15.trans K5 (allS (Or.inr sz3) all0)
    have sz17 : h0.size ≤ nnb3_1_10 := Nat.le_trans f16.1 sznnb3_1_10
    have f19 : Old Z n0 h10 := f12.keep K10 all0
    obtain ⟨_, _, ⟨T18, L18, k18, n18⟩, -, X18, ⟨Lc18, hQ18, l18, y18, z18⟩, st18⟩ := Jvm.LawKit.callS X10 hx (y := (⟨"java/lang/StringUTF16", "getChar", "([BI)C"⟩ : MethodName)) hown (mvT hZ (own_w hw 62 rfl)) (mvT hZ (own_w hw 63 rfl)) (mvT hZ (own_w hw 17 rfl)) (mvT hZ (own_w hw 64 rfl)) (by decide) (backOf (W := 0) (rmgetChar47 l Z a0 hw [] nnb3_1_10 k3_1_10 ((x0_ >>> ((0 : Int32) &&& 31)).toInt8.toInt32) ((x0_ >>> ((8 : Int32) &&& 31)).toInt8.toInt32) ((x1_ >>> ((0 : Int32) &&& 31)).toInt8.toInt32) ((x1_ >>> ((8 : Int32) &&& 31)).toInt8.toInt32) ((x2_ >>> ((0 : Int32) &&& 31)).toInt8.toInt32) ((x2_ >>> ((8 : Int32) &&& 31)).toInt8.toInt32) ((x3_ >>> ((0 : Int32) &&& 31)).toInt8.toInt32) ((x3_ >>> ((8 : Int32) &&& 31)).toInt8.toInt32) h10 n0 f19 g10_0 g10_1 P7 P8 P9) hZ (own_w hw 64 rfl) (own_w hw 17 rfl) (by decide) (by decide)) (g := (mkF m 32 #[lvR sr_, lvI (0 : Int32), lvI (4 : Int32), lvR b1, lvI (0 : Int32), lvR nnb3_1_10] [(.int (0 : Int32)), (.ref nnb3_1_10)])) rfl (by rw [hml]; rfl) (argsL := [(.ref nnb3_1_10), (.int (0 : Int32))]) (rest := []) (lenOf pd_5 rfl) rfl (by show 2 * 0 + _ ≤ _; exact Nat.le_of_eq rfl) (hb hby d2_32) (fun _ _ => ⟨rfl, e10, (by decide : 2 + 0 ≤ _), (by decide : 12 + 0 ≤ _)⟩)
    dsimp only [Pt.U, Pt.locs, Pt.cells, Pt.slots] at X18 l18 y18 z18 st18 hQ18
    subst l18 y18 z18
    obtain ⟨h18, e18⟩ : ∃ z, T18.heap = z := ⟨_, rfl⟩
    rw [e18] at hQ18
    obtain ⟨rfl, N18q, hh18⟩ := hQ18
    have N20 := Fr.app N13 N18q
    have e18' : T18.heap = h10 := e18.trans hh18
    have hn21 : (255 : Int32) < ((((((x0_ >>> ((0 : Int32) &&& 31)).toInt8.toInt32) &&& (255 : Int32)) <<< ((0 : Int32) &&& 31)) ||| ((((x0_ >>> ((8 : Int32) &&& 31)).toInt8.toInt32) &&& (255 : Int32)) <<< ((8 : Int32) &&& 31))).toUInt32.toUInt16.toUInt32.toInt32) := own_getc hc0_ hq5_0_0
    have pre22 : ∀ t, own_S p e below m T18 56 #[lvR sr_, lvI (0 : Int32), lvI (4 : Int32), lvR b1, lvI (0 : Int32), lvR nnb3_1_10] [(.ref nnb3_1_10)] t → G t := by
      intro t kt
      refine pre0 t ?_
      show own_S p e below m s₁ 0 #[lvR sr_, lvI (0 : Int32), lvI (4 : Int32), .unset, .unset, .unset] [] _
      refine XS.iloadN X0.here hx rfl (hb hby d2_0) rfl ?_
      show own_S p e below m s₁ 1 #[lvR sr_, lvI (0 : Int32), lvI (4 : Int32), .unset, .unset, .unset] [(.int (4 : Int32))] _
      refine st1 _ ?_
      refine XS.astoreN X1.here hx rfl (hb hby d2_3) rfl rfl (l' := #[lvR sr_, lvI (0 : Int32), lvI (4 : Int32), lvR b1, .unset, .unset]) rfl ?_
      refine XS.aloadN X1.here hx rfl (hb hby d2_4) rfl rfl ?_
      refine XS.iloadN X1.here hx rfl (hb hby d2_5) rfl ?_
      refine XS.aloadN X1.here hx rfl (hb hby d2_6) rfl rfl ?_
      refine XS.iconst X1.here hx rfl (hb hby d2_7) ?_
      show own_S p e below m T1 8 #[lvR sr_, lvI (0 : Int32), lvI (4 : Int32), lvR b1, .unset, .unset] [(.int (0 : Int32)), (.ref b1), (.int (0 : Int32)), (.ref sr_)] _
      refine XS.iloadN X1.here hx rfl (hb hby d2_8) rfl ?_
      show own_S p e below m T1 9 #[lvR sr_, lvI (0 : Int32), lvI (4 : Int32), lvR b1, .unset, .unset] [(.int (4 : Int32)), (.int (0 : Int32)), (.ref b1), (.int (0 : Int32)), (.ref sr_)] _
      refine st5 _ ?_
      refine XS.istore X5.here hx rfl (hb hby d2_12) rfl (l' := #[lvR sr_, lvI (0 : Int32), lvI (4 : Int32), lvR b1, lvI (0 : Int32), .unset]) rfl ?_
      refine XS.iload X5.here hx rfl (hb hby d2_14) rfl ?_
      refine XS.iloadN X5.here hx rfl (hb hby d2_16) rfl ?_
      show own_S p e below m T5 17 #[lvR sr_, lvI (0 : Int32), lvI (4 : Int32), lvR b1, lvI (0 : Int32), .unset] [(.int (4 : Int32)), (.int (0 : Int32))] _
      refine XS.icmpNo X5.here hx rfl (hb hby d2_17) rfl (feq (by decide : ¬ ((0 : Int32) = (4 : Int32)))).1 ?_
      refine XS.aloadN X5.here hx rfl (hb hby d2_20) rfl rfl ?_
      refine XS.iloadN X5.here hx rfl (hb hby d2_21) rfl ?_
      refine XS.iloadN X5.here hx rfl (hb hby d2_22) rfl ?_
      show own_S p e below m T5 23 #[lvR sr_, lvI (0 : Int32), lvI (4 : Int32), lvR b1, lvI (0 : Int32), .unset] [(.int (4 : Int32)), (.int (0 : Int32)), (.ref sr_)] _
      refine st10 _ ?_
      refine XS.astore X10.here hx rfl (hb hby d2_26) rfl rfl (l' := #[lvR sr_, lvI (0 : Int32), lvI (4 : Int32), lvR b1, lvI (0 : Int32), lvR nnb3_1_10]) rfl ?_
      refine XS.aload X10.here hx rfl (hb hby d2_28) rfl rfl ?_
      refine XS.iload X10.here hx rfl (hb hby d2_30) rfl ?_
      show own_S p e below m T10 32 #[lvR sr_, lvI (0 : Int32), lvI (4 : Int32), lvR b1, lvI (0 : Int32), lvR nnb3_1_10] [(.int (0 : Int32)), (.ref nnb3_1_10)] _
      refine st18 _ ?_
      refine XS.sipush X18.here hx rfl (hb hby d2_35) ?_
      show own_S p e below m T18 38 #[lvR sr_, lvI (0 : Int32), lvI (4 : Int32), lvR b1, lvI (0 : Int32), lvR nnb3_1_10] [(.int (255 : Int32)), (.int ((((((x0_ >>> ((0 : Int32) &&& 31)).toInt8.toInt32) &&& (255 : Int32)) <<< ((0 : Int32) &&& 31)) ||| ((((x0_ >>> ((8 : Int32) &&& 31)).toInt8.toInt32) &&& (255 : Int32)) <<< ((8 : Int32) &&& 31))).toUInt32.toUInt16.toUInt32.toInt32))] _
      refine XS.icmpYes X18.here hx rfl (pc0 := 38) (pc' := 54) rfl (hb hby d2_38) rfl (tlt hn21).2.2.1 (by decide) (by decide) ?_
      refine XS.aload X18.here hx rfl (hb hby d2_54) rfl rfl ?_
      exact kt
    have f24 : Keep h0 h10 [] := f16.trans K10 all0
    obtain ⟨fs, hr, hrun, hended, hW, hsame⟩ := X18.leave (v := some (.ref nnb3_1_10)) (fun h => by rw [Bd.returns] at h; cases h)
    refine ⟨_, _, hG _ (pre22 _ (retOut X18 hx Bd.returns rfl (Or.inr (Or.inr (Or.inr (Or.inr ⟨rfl, rfl, rfl⟩)))) (hb hby d2_56) hr)), hrun, hended, _, _, rfl, ?_, ⟨_, rfl⟩, hW, hsame.mono (by decide) (by decide)⟩
    show QCq4 Z sr_ ks_ x0_ x1_ x2_ x3_ w_COMPACT_STRINGS h0 n0 _ T18.heap _
    rw [e18']
    exact ⟨k3_1_10, (8 : Int32), [(.int ((x0_ >>> ((0 : Int32) &&& 31)).toInt8.toInt32)), (.int ((x0_ >>> ((8 : Int32) &&& 31)).toInt8.toInt32)), (.int ((x1_ >>> ((0 : Int32) &&& 31)).toInt8.toInt32)), (.int ((x1_ >>> ((8 : Int32) &&& 31)).toInt8.toInt32)), (.int ((x2_ >>> ((0 : Int32) &&& 31)).toInt8.toInt32)), (.int ((x2_ >>> ((8 : Int32) &&& 31)).toInt8.toInt32)), (.int ((x3_ >>> ((0 : Int32) &&& 31)).toInt8.toInt32)), (.int ((x3_ >>> ((8 : Int32) &&& 31)).toInt8.toInt32))], nnb3_1_10, rfl, N20, f24, sz17, g10_1, g10_0, (Or.inr (by decide))⟩
  · have f26 : Arv Z h5 sr_ ks_ .char (4 : Int32) [(.int x0_), (.int x1_), (.int x2_), (.int x3_)] (.int (0 : Int32)) := f6.keep K5 (ninS ne7 nin0)
    have f27 : Old Z n0 h5 := f8.keep K5 (allS (ge2) all0)
    obtain ⟨_, _, ⟨T25, L25, k25, n25⟩, -, X25, ⟨Lc25, hQ25, l25, y25, z25⟩, st25⟩ := Jvm.LawKit.callS X5 hx (y := (⟨"java/lang/StringUTF16", "toBytes", "([CII)[B"⟩ : MethodName)) hown (mvT hZ (own_w hw 46 rfl)) (mvT hZ (own_w hw 47 rfl)) (mvT hZ (own_w hw 17 rfl)) (mvT hZ (own_w hw 48 rfl)) (by decide) (backOf (W := 0) (rmtoBytes37 l Z a0 hw [] sr_ ks_ x0_ x1_ x2_ x3_ h5 n0 f27 f26 P7 P8 P9) hZ (own_w hw 48 rfl) (own_w hw 17 rfl) (by decide) (by decide)) (g := (mkF m 23 #[lvR sr_, lvI (0 : Int32), lvI (4 : Int32), lvR b1, lvI (1 : Int32), .unset] [(.int (4 : Int32)), (.int (0 : Int32)), (.ref sr_)])) rfl (by rw [hml]; rfl) (argsL := [(.ref sr_), (.int (0 : Int32)), (.int (4 : Int32))]) (rest := []) (lenOf pd_4 rfl) rfl (by show 2 * 0 + _ ≤ _; exact Nat.le_of_eq rfl) (hb hby d2_23) (fun _ _ => ⟨rfl, e5, (by decide : 1 + 1 ≤ _), (by decide : 4 + 8 ≤ _)⟩)
    dsimp only [Pt.U, Pt.locs, Pt.cells, Pt.slots] at X25 l25 y25 z25 st25 hQ25
    subst l25 y25 z25
    obtain ⟨h25, e25⟩ : ∃ z, T25.heap = z := ⟨_, rfl⟩
    rw [e25] at hQ25
    obtain ⟨k3_1_25, nnb3_1_25, rfl, N25q, K25, sznnb3_1_25, g25_0, g25_1⟩ := hQ25
    have N28 := Fr.app N9 N25q
    have ge29 : n0 ≤ nnb3_1_25 := Nat.le_trans (Nat.le_trans (Nat.le_of_eq f27.1.symm) f27.2.1) sznnb3_1_25
    have f30 : Keep h0 h1 [] := K0.ext E1
    have f31 : Keep h0 h5 [] := f30.trans K5 (allS (Or.inr sz3) all0)
    have sz32 : h0.size ≤ nnb3_1_25 := Nat.le_trans f31.1 sznnb3_1_25
    have f34 : Old Z n0 h25 := f27.keep K25 all0
    obtain ⟨_, _, ⟨T33, L33, k33, n33⟩, -, X33, ⟨Lc33, hQ33, l33, y33, z33⟩, st33⟩ := Jvm.LawKit.callS X25 hx (y := (⟨"java/lang/StringUTF16", "getChar", "([BI)C"⟩ : MethodName)) hown (mvT hZ (own_w hw 62 rfl)) (mvT hZ (own_w hw 63 rfl)) (mvT hZ (own_w hw 17 rfl)) (mvT hZ (own_w hw 64 rfl)) (by decide) (backOf (W := 0) (rmgetChar48 l Z a0 hw [] nnb3_1_25 k3_1_25 ((x0_ >>> ((0 : Int32) &&& 31)).toInt8.toInt32) ((x0_ >>> ((8 : Int32) &&& 31)).toInt8.toInt32) ((x1_ >>> ((0 : Int32) &&& 31)).toInt8.toInt32) ((x1_ >>> ((8 : Int32) &&& 31)).toInt8.toInt32) ((x2_ >>> ((0 : Int32) &&& 31)).toInt8.toInt32) ((x2_ >>> ((8 : Int32) &&& 31)).toInt8.toInt32) ((x3_ >>> ((0 : Int32) &&& 31)).toInt8.toInt32) ((x3_ >>> ((8 : Int32) &&& 31)).toInt8.toInt32) h25 n0 f34 g25_0 g25_1 P7 P8 P9) hZ (own_w hw 64 rfl) (own_w hw 17 rfl) (by decide) (by decide)) (g := (mkF m 32 #[lvR sr_, lvI (0 : Int32), lvI (4 : Int32), lvR b1, lvI (1 : Int32), lvR nnb3_1_25] [(.int (1 : Int32)), (.ref nnb3_1_25)])) rfl (by rw [hml]; rfl) (argsL := [(.ref nnb3_1_25), (.int (1 : Int32))]) (rest := []) (lenOf pd_5 rfl) rfl (by show 2 * 0 + _ ≤ _; exact Nat.le_of_eq rfl) (hb hby d2_32) (fun _ _ => ⟨rfl, e25, (by decide : 2 + 0 ≤ _), (by decide : 12 + 0 ≤ _)⟩)
    dsimp only [Pt.U, Pt.locs, Pt.cells, Pt.slots] at X33 l33 y33 z33 st33 hQ33
    subst l33 y33 z33
    obtain ⟨h33, e33⟩ : ∃ z, T33.heap = z := ⟨_, rfl⟩
    rw [e33] at hQ33
    obtain ⟨rfl, N33q, hh33⟩ := hQ33
    have N35 := Fr.app N28 N33q
    have e33' : T33.heap = h25 := e33.trans hh33
    have hn36 : (255 : Int32) < ((((((x1_ >>> ((0 : Int32) &&& 31)).toInt8.toInt32) &&& (255 : Int32)) <<< ((0 : Int32) &&& 31)) ||| ((((x1_ >>> ((8 : Int32) &&& 31)).toInt8.toInt32) &&& (255 : Int32)) <<< ((8 : Int32) &&& 31))).toUInt32.toUInt16.toUInt32.toInt32) := own_getc hc1_ hq5_1_1
    have pre37 : ∀ t, own_S p e below m T33 56 #[lvR sr_, lvI (0 : Int32), lvI (4 : Int32), lvR b1, lvI (1 : Int32), lvR nnb3_1_25] [(.ref nnb3_1_25)] t → G t := by
      intro t kt
      refine pre0 t ?_
      show own_S p e below m s₁ 0 #[lvR sr_, lvI (0 : Int32), lvI (4 : Int32), .unset, .unset, .unset] [] _
      refine XS.iloadN X0.here hx rfl (hb hby d2_0) rfl ?_
      show own_S p e below m s₁ 1 #[lvR sr_, lvI (0 : Int32), lvI (4 : Int32), .unset, .unset, .unset] [(.int (4 : Int32))] _
      refine st1 _ ?_
      refine XS.astoreN X1.here hx rfl (hb hby d2_3) rfl rfl (l' := #[lvR sr_, lvI (0 : Int32), lvI (4 : Int32), lvR b1, .unset, .unset]) rfl ?_
      refine XS.aloadN X1.here hx rfl (hb hby d2_4) rfl rfl ?_
      refine XS.iloadN X1.here hx rfl (hb hby d2_5) rfl ?_
      refine XS.aloadN X1.here hx rfl (hb hby d2_6) rfl rfl ?_
      refine XS.iconst X1.here hx rfl (hb hby d2_7) ?_
      show own_S p e below m T1 8 #[lvR sr_, lvI (0 : Int32), lvI (4 : Int32), lvR b1, .unset, .unset] [(.int (0 : Int32)), (.ref b1), (.int (0 : Int32)), (.ref sr_)] _
      refine XS.iloadN X1.here hx rfl (hb hby d2_8) rfl ?_
      show own_S p e below m T1 9 #[lvR sr_, lvI (0 : Int32), lvI (4 : Int32), lvR b1, .unset, .unset] [(.int (4 : Int32)), (.int (0 : Int32)), (.ref b1), (.int (0 : Int32)), (.ref sr_)] _
      refine st5 _ ?_
      refine XS.istore X5.here hx rfl (hb hby d2_12) rfl (l' := #[lvR sr_, lvI (0 : Int32), lvI (4 : Int32), lvR b1, lvI (1 : Int32), .unset]) rfl ?_
      refine XS.iload X5.here hx rfl (hb hby d2_14) rfl ?_
      refine XS.iloadN X5.here hx rfl (hb hby d2_16) rfl ?_
      show own_S p e below m T5 17 #[lvR sr_, lvI (0 : Int32), lvI (4 : Int32), lvR b1, lvI (1 : Int32), .unset] [(.int (4 : Int32)), (.int (1 : Int32))] _
      refine XS.icmpNo X5.here hx rfl (hb hby d2_17) rfl (feq (by decide : ¬ ((1 : Int32) = (4 : Int32)))).1 ?_
      refine XS.aloadN X5.here hx rfl (hb hby d2_20) rfl rfl ?_
      refine XS.iloadN X5.here hx rfl (hb hby d2_21) rfl ?_
      refine XS.iloadN X5.here hx rfl (hb hby d2_22) rfl ?_
      show own_S p e below m T5 23 #[lvR sr_, lvI (0 : Int32), lvI (4 : Int32), lvR b1, lvI (1 : Int32), .unset] [(.int (4 : Int32)), (.int (0 : Int32)), (.ref sr_)] _
      refine st25 _ ?_
      refine XS.astore X25.here hx rfl (hb hby d2_26) rfl rfl (l' := #[lvR sr_, lvI (0 : Int32), lvI (4 : Int32), lvR b1, lvI (1 : Int32), lvR nnb3_1_25]) rfl ?_
      refine XS.aload X25.here hx rfl (hb hby d2_28) rfl rfl ?_
      refine XS.iload X25.here hx rfl (hb hby d2_30) rfl ?_
      show own_S p e below m T25 32 #[lvR sr_, lvI (0 : Int32), lvI (4 : Int32), lvR b1, lvI (1 : Int32), lvR nnb3_1_25] [(.int (1 : Int32)), (.ref nnb3_1_25)] _
      refine st33 _ ?_
      refine XS.sipush X33.here hx rfl (hb hby d2_35) ?_
      show own_S p e below m T33 38 #[lvR sr_, lvI (0 : Int32), lvI (4 : Int32), lvR b1, lvI (1 : Int32), lvR nnb3_1_25] [(.int (255 : Int32)), (.int ((((((x1_ >>> ((0 : Int32) &&& 31)).toInt8.toInt32) &&& (255 : Int32)) <<< ((0 : Int32) &&& 31)) ||| ((((x1_ >>> ((8 : Int32) &&& 31)).toInt8.toInt32) &&& (255 : Int32)) <<< ((8 : Int32) &&& 31))).toUInt32.toUInt16.toUInt32.toInt32))] _
      refine XS.icmpYes X33.here hx rfl (pc0 := 38) (pc' := 54) rfl (hb hby d2_38) rfl (tlt hn36).2.2.1 (by decide) (by decide) ?_
      refine XS.aload X33.here hx rfl (hb hby d2_54) rfl rfl ?_
      exact kt
    have f39 : Keep h0 h25 [] := f31.trans K25 all0
    obtain ⟨fs, hr, hrun, hended, hW, hsame⟩ := X33.leave (v := some (.ref nnb3_1_25)) (fun h => by rw [Bd.returns] at h; cases h)
    refine ⟨_, _, hG _ (pre37 _ (retOut X33 hx Bd.returns rfl (Or.inr (Or.inr (Or.inr (Or.inr ⟨rfl, rfl, rfl⟩)))) (hb hby d2_56) hr)), hrun, hended, _, _, rfl, ?_, ⟨_, rfl⟩, hW, hsame.mono (by decide) (by decide)⟩
    show QCq4 Z sr_ ks_ x0_ x1_ x2_ x3_ w_COMPACT_STRINGS h0 n0 _ T33.heap _
    rw [e33']
    exact ⟨k3_1_25, (8 : Int32), [(.int ((x0_ >>> ((0 : Int32) &&& 31)).toInt8.toInt32)), (.int ((x0_ >>> ((8 : Int32) &&& 31)).toInt8.toInt32)), (.int ((x1_ >>> ((0 : Int32) &&& 31)).toInt8.toInt32)), (.int ((x1_ >>> ((8 : Int32) &&& 31)).toInt8.toInt32)), (.int ((x2_ >>> ((0 : Int32) &&& 31)).toInt8.toInt32)), (.int ((x2_ >>> ((8 : Int32) &&& 31)).toInt8.toInt32)), (.int ((x3_ >>> ((0 : Int32) &&& 31)).toInt8.toInt32)), (.int ((x3_ >>> ((8 : Int32) &&& 31)).toInt8.toInt32))], nnb3_1_25, rfl, N35, f39, sz32, g25_1, g25_0, (Or.inr (by decide))⟩
  · have f41 : Arv Z h5 sr_ ks_ .char (4 : Int32) [(.int x0_), (.int x1_), (.int x2_), (.int x3_)] (.int (0 : Int32)) := f6.keep K5 (ninS ne7 nin0)
    have f42 : Old Z n0 h5 := f8.keep K5 (allS (ge2) all0)
    obtain ⟨_, _, ⟨T40, L40, k40, n40⟩, -, X40, ⟨Lc40, hQ40, l40, y40, z40⟩, st40⟩ := Jvm.LawKit.callS X5 hx (y := (⟨"java/lang/StringUTF16", "toBytes", "([CII)[B"⟩ : MethodName)) hown (mvT hZ (own_w hw 46 rfl)) (mvT hZ (own_w hw 47 rfl)) (mvT hZ (own_w hw 17 rfl)) (mvT hZ (own_w hw 48 rfl)) (by decide) (backOf (W := 0) (rmtoBytes37 l Z a0 hw [] sr_ ks_ x0_ x1_ x2_ x3_ h5 n0 f42 f41 P7 P8 P9) hZ (own_w hw 48 rfl) (own_w hw 17 rfl) (by decide) (by decide)) (g := (mkF m 23 #[lvR sr_, lvI (0 : Int32), lvI (4 : Int32), lvR b1, lvI (2 : Int32), .unset] [(.int (4 : Int32)), (.int (0 : Int32)), (.ref sr_)])) rfl (by rw [hml]; rfl) (argsL := [(.ref sr_), (.int (0 : Int32)), (.int (4 : Int32))]) (rest := []) (lenOf pd_4 rfl) rfl (by show 2 * 0 + _ ≤ _; exact Nat.le_of_eq rfl) (hb hby d2_23) (fun _ _ => ⟨rfl, e5, (by decide : 1 + 1 ≤ _), (by decide : 4 + 8 ≤ _)⟩)
    dsimp only [Pt.U, Pt.locs, Pt.cells, Pt.slots] at X40 l40 y40 z40 st40 hQ40
    subst l40 y40 z40
    obtain ⟨h40, e40⟩ : ∃ z, T40.heap = z := ⟨_, rfl⟩
    rw [e40] at hQ40
    obtain ⟨k3_1_40, nnb3_1_40, rfl, N40q, K40, sznnb3_1_40, g40_0, g40_1⟩ := hQ40
    have N43 := Fr.app N9 N40q
    have ge44 : n0 ≤ nnb3_1_40 := Nat.le_trans (Nat.le_trans (Nat.le_of_eq f42.1.symm) f42.2.1) sznnb3_1_40
    have f45 : Keep h0 h1 [] := K0.ext E1
    have f46 : Keep h0 h5 [] := f45.trans K5 (allS (Or.inr sz3) all0)
    have sz47 : h0.size ≤ nnb3_1_40 := Nat.le_trans f46.1 sznnb3_1_40
    have f49 : Old Z n0 h40 := f42.keep K40 all0
    obtain ⟨_, _, ⟨T48, L48, k48, n48⟩, -, X48, ⟨Lc48, hQ48, l48, y48, z48⟩, st48⟩ := Jvm.LawKit.callS X40 hx (y := (⟨"java/lang/StringUTF16", "getChar", "([BI)C"⟩ : MethodName)) hown (mvT hZ (own_w hw 62 rfl)) (mvT hZ (own_w hw 63 rfl)) (mvT hZ (own_w hw 17 rfl)) (mvT hZ (own_w hw 64 rfl)) (by decide) (backOf (W := 0) (rmgetChar49 l Z a0 hw [] nnb3_1_40 k3_1_40 ((x0_ >>> ((0 : Int32) &&& 31)).toInt8.toInt32) ((x0_ >>> ((8 : Int32) &&& 31)).toInt8.toInt32) ((x1_ >>> ((0 : Int32) &&& 31)).toInt8.toInt32) ((x1_ >>> ((8 : Int32) &&& 31)).toInt8.toInt32) ((x2_ >>> ((0 : Int32) &&& 31)).toInt8.toInt32) ((x2_ >>> ((8 : Int32) &&& 31)).toInt8.toInt32) ((x3_ >>> ((0 : Int32) &&& 31)).toInt8.toInt32) ((x3_ >>> ((8 : Int32) &&& 31)).toInt8.toInt32) h40 n0 f49 g40_0 g40_1 P7 P8 P9) hZ (own_w hw 64 rfl) (own_w hw 17 rfl) (by decide) (by decide)) (g := (mkF m 32 #[lvR sr_, lvI (0 : Int32), lvI (4 : Int32), lvR b1, lvI (2 : Int32), lvR nnb3_1_40] [(.int (2 : Int32)), (.ref nnb3_1_40)])) rfl (by rw [hml]; rfl) (argsL := [(.ref nnb3_1_40), (.int (2 : Int32))]) (rest := []) (lenOf pd_5 rfl) rfl (by show 2 * 0 + _ ≤ _; exact Nat.le_of_eq rfl) (hb hby d2_32) (fun _ _ => ⟨rfl, e40, (by decide : 2 + 0 ≤ _), (by decide : 12 + 0 ≤ _)⟩)
    dsimp only [Pt.U, Pt.locs, Pt.cells, Pt.slots] at X48 l48 y48 z48 st48 hQ48
    subst l48 y48 z48
    obtain ⟨h48, e48⟩ : ∃ z, T48.heap = z := ⟨_, rfl⟩
    rw [e48] at hQ48
    obtain ⟨rfl, N48q, hh48⟩ := hQ48
    have N50 := Fr.app N43 N48q
    have e48' : T48.heap = h40 := e48.trans hh48
    have hn51 : (255 : Int32) < ((((((x2_ >>> ((0 : Int32) &&& 31)).toInt8.toInt32) &&& (255 : Int32)) <<< ((0 : Int32) &&& 31)) ||| ((((x2_ >>> ((8 : Int32) &&& 31)).toInt8.toInt32) &&& (255 : Int32)) <<< ((8 : Int32) &&& 31))).toUInt32.toUInt16.toUInt32.toInt32) := own_getc hc2_ hq5_2_2
    have pre52 : ∀ t, own_S p e below m T48 56 #[lvR sr_, lvI (0 : Int32), lvI (4 : Int32), lvR b1, lvI (2 : Int32), lvR nnb3_1_40] [(.ref nnb3_1_40)] t → G t := by
      intro t kt
      refine pre0 t ?_
      show own_S p e below m s₁ 0 #[lvR sr_, lvI (0 : Int32), lvI (4 : Int32), .unset, .unset, .unset] [] _
      refine XS.iloadN X0.here hx rfl (hb hby d2_0) rfl ?_
      show own_S p e below m s₁ 1 #[lvR sr_, lvI (0 : Int32), lvI (4 : Int32), .unset, .unset, .unset] [(.int (4 : Int32))] _
      refine st1 _ ?_
      refine XS.astoreN X1.here hx rfl (hb hby d2_3) rfl rfl (l' := #[lvR sr_, lvI (0 : Int32), lvI (4 : Int32), lvR b1, .unset, .unset]) rfl ?_
      refine XS.aloadN X1.here hx rfl (hb hby d2_4) rfl rfl ?_
      refine XS.iloadN X1.here hx rfl (hb hby d2_5) rfl ?_
      refine XS.aloadN X1.here hx rfl (hb hby d2_6) rfl rfl ?_
      refine XS.iconst X1.here hx rfl (hb hby d2_7) ?_
      show own_S p e below m T1 8 #[lvR sr_, lvI (0 : Int32), lvI (4 : Int32), lvR b1, .unset, .unset] [(.int (0 : Int32)), (.ref b1), (.int (0 : Int32)), (.ref sr_)] _
      refine XS.iloadN X1.here hx rfl (hb hby d2_8) rfl ?_
      show own_S p e below m T1 9 #[lvR sr_, lvI (0 : Int32), lvI (4 : Int32), lvR b1, .unset, .unset] [(.int (4 : Int32)), (.int (0 : Int32)), (.ref b1), (.int (0 : Int32)), (.ref sr_)] _
      refine st5 _ ?_
      refine XS.istore X5.here hx rfl (hb hby d2_12) rfl (l' := #[lvR sr_, lvI (0 : Int32), lvI (4 : Int32), lvR b1, lvI (2 : Int32), .unset]) rfl ?_
      refine XS.iload X5.here hx rfl (hb hby d2_14) rfl ?_
      refine XS.iloadN X5.here hx rfl (hb hby d2_16) rfl ?_
      show own_S p e below m T5 17 #[lvR sr_, lvI (0 : Int32), lvI (4 : Int32), lvR b1, lvI (2 : Int32), .unset] [(.int (4 : Int32)), (.int (2 : Int32))] _
      refine XS.icmpNo X5.here hx rfl (hb hby d2_17) rfl (feq (by decide : ¬ ((2 : Int32) = (4 : Int32)))).1 ?_
      refine XS.aloadN X5.here hx rfl (hb hby d2_20) rfl rfl ?_
      refine XS.iloadN X5.here hx rfl (hb hby d2_21) rfl ?_
      refine XS.iloadN X5.here hx rfl (hb hby d2_22) rfl ?_
      show own_S p e below m T5 23 #[lvR sr_, lvI (0 : Int32), lvI (4 : Int32), lvR b1, lvI (2 : Int32), .unset] [(.int (4 : Int32)), (.int (0 : Int32)), (.ref sr_)] _
      refine st40 _ ?_
      refine XS.astore X40.here hx rfl (hb hby d2_26) rfl rfl (l' := #[lvR sr_, lvI (0 : Int32), lvI (4 : Int32), lvR b1, lvI (2 : Int32), lvR nnb3_1_40]) rfl ?_
      refine XS.aload X40.here hx rfl (hb hby d2_28) rfl rfl ?_
      refine XS.iload X40.here hx rfl (hb hby d2_30) rfl ?_
      show own_S p e below m T40 32 #[lvR sr_, lvI (0 : Int32), lvI (4 : Int32), lvR b1, lvI (2 : Int32), lvR nnb3_1_40] [(.int (2 : Int32)), (.ref nnb3_1_40)] _
      refine st48 _ ?_
      refine XS.sipush X48.here hx rfl (hb hby d2_35) ?_
      show own_S p e below m T48 38 #[lvR sr_, lvI (0 : Int32), lvI (4 : Int32), lvR b1, lvI (2 : Int32), lvR nnb3_1_40] [(.int (255 : Int32)), (.int ((((((x2_ >>> ((0 : Int32) &&& 31)).toInt8.toInt32) &&& (255 : Int32)) <<< ((0 : Int32) &&& 31)) ||| ((((x2_ >>> ((8 : Int32) &&& 31)).toInt8.toInt32) &&& (255 : Int32)) <<< ((8 : Int32) &&& 31))).toUInt32.toUInt16.toUInt32.toInt32))] _
      refine XS.icmpYes X48.here hx rfl (pc0 := 38) (pc' := 54) rfl (hb hby d2_38) rfl (tlt hn51).2.2.1 (by decide) (by decide) ?_
      refine XS.aload X48.here hx rfl (hb hby d2_54) rfl rfl ?_
      exact kt
    have f54 : Keep h0 h40 [] := f46.trans K40 all0
    obtain ⟨fs, hr, hrun, hended, hW, hsame⟩ := X48.leave (v := some (.ref nnb3_1_40)) (fun h => by rw [Bd.returns] at h; cases h)
    refine ⟨_, _, hG _ (pre52 _ (retOut X48 hx Bd.returns rfl (Or.inr (Or.inr (Or.inr (Or.inr ⟨rfl, rfl, rfl⟩)))) (hb hby d2_56) hr)), hrun, hended, _, _, rfl, ?_, ⟨_, rfl⟩, hW, hsame.mono (by decide) (by decide)⟩
    show QCq4 Z sr_ ks_ x0_ x1_ x2_ x3_ w_COMPACT_STRINGS h0 n0 _ T48.heap _
    rw [e48']
    exact ⟨k3_1_40, (8 : Int32), [(.int ((x0_ >>> ((0 : Int32) &&& 31)).toInt8.toInt32)), (.int ((x0_ >>> ((8 : Int32) &&& 31)).toInt8.toInt32)), (.int ((x1_ >>> ((0 : Int32) &&& 31)).toInt8.toInt32)), (.int ((x1_ >>> ((8 : Int32) &&& 31)).toInt8.toInt32)), (.int ((x2_ >>> ((0 : Int32) &&& 31)).toInt8.toInt32)), (.int ((x2_ >>> ((8 : Int32) &&& 31)).toInt8.toInt32)), (.int ((x3_ >>> ((0 : Int32) &&& 31)).toInt8.toInt32)), (.int ((x3_ >>> ((8 : Int32) &&& 31)).toInt8.toInt32))], nnb3_1_40, rfl, N50, f54, sz47, g40_1, g40_0, (Or.inr (by decide))⟩
  · have f56 : Arv Z h5 sr_ ks_ .char (4 : Int32) [(.int x0_), (.int x1_), (.int x2_), (.int x3_)] (.int (0 : Int32)) := f6.keep K5 (ninS ne7 nin0)
    have f57 : Old Z n0 h5 := f8.keep K5 (allS (ge2) all0)
    obtain ⟨_, _, ⟨T55, L55, k55, n55⟩, -, X55, ⟨Lc55, hQ55, l55, y55, z55⟩, st55⟩ := Jvm.LawKit.callS X5 hx (y := (⟨"java/lang/StringUTF16", "toBytes", "([CII)[B"⟩ : MethodName)) hown (mvT hZ (own_w hw 46 rfl)) (mvT hZ (own_w hw 47 rfl)) (mvT hZ (own_w hw 17 rfl)) (mvT hZ (own_w hw 48 rfl)) (by decide) (backOf (W := 0) (rmtoBytes37 l Z a0 hw [] sr_ ks_ x0_ x1_ x2_ x3_ h5 n0 f57 f56 P7 P8 P9) hZ (own_w hw 48 rfl) (own_w hw 17 rfl) (by decide) (by decide)) (g := (mkF m 23 #[lvR sr_, lvI (0 : Int32), lvI (4 : Int32), lvR b1, lvI (3 : Int32), .unset] [(.int (4 : Int32)), (.int (0 : Int32)), (.ref sr_)])) rfl (by rw [hml]; rfl) (argsL := [(.ref sr_), (.int (0 : Int32)), (.int (4 : Int32))]) (rest := []) (lenOf pd_4 rfl) rfl (by show 2 * 0 + _ ≤ _; exact Nat.le_of_eq rfl) (hb hby d2_23) (fun _ _ => ⟨rfl, e5, (by decide : 1 + 1 ≤ _), (by decide : 4 + 8 ≤ _)⟩)
    dsimp only [Pt.U, Pt.locs, Pt.cells, Pt.slots] at X55 l55 y55 z55 st55 hQ55
    subst l55 y55 z55
    obtain ⟨h55, e55⟩ : ∃ z, T55.heap = z := ⟨_, rfl⟩
    rw [e55] at hQ55
    obtain ⟨k3_1_55, nnb3_1_55, rfl, N55q, K55, sznnb3_1_55, g55_0, g55_1⟩ := hQ55
    have N58 := Fr.app N9 N55q
    have ge59 : n0 ≤ nnb3_1_55 := Nat.le_trans (Nat.le_trans (Nat.le_of_eq f57.1.symm) f57.2.1) sznnb3_1_55
    have f60 : Keep h0 h1 [] := K0.ext E1
    have f61 : Keep h0 h5 [] := f60.trans K5 (allS (Or.inr sz3) all0)
    have sz62 : h0.size ≤ nnb3_1_55 := Nat.le_trans f61.1 sznnb3_1_55
    have f64 : Old Z n0 h55 := f57.keep K55 all0
    obtain ⟨_, _, ⟨T63, L63, k63, n63⟩, -, X63, ⟨Lc63, hQ63, l63, y63, z63⟩, st63⟩ := Jvm.LawKit.callS X55 hx (y := (⟨"java/lang/StringUTF16", "getChar", "([BI)C"⟩ : MethodName)) hown (mvT hZ (own_w hw 62 rfl)) (mvT hZ (own_w hw 63 rfl)) (mvT hZ (own_w hw 17 rfl)) (mvT hZ (own_w hw 64 rfl)) (by decide) (backOf (W := 0) (rmgetChar50 l Z a0 hw [] nnb3_1_55 k3_1_55 ((x0_ >>> ((0 : Int32) &&& 31)).toInt8.toInt32) ((x0_ >>> ((8 : Int32) &&& 31)).toInt8.toInt32) ((x1_ >>> ((0 : Int32) &&& 31)).toInt8.toInt32) ((x1_ >>> ((8 : Int32) &&& 31)).toInt8.toInt32) ((x2_ >>> ((0 : Int32) &&& 31)).toInt8.toInt32) ((x2_ >>> ((8 : Int32) &&& 31)).toInt8.toInt32) ((x3_ >>> ((0 : Int32) &&& 31)).toInt8.toInt32) ((x3_ >>> ((8 : Int32) &&& 31)).toInt8.toInt32) h55 n0 f64 g55_0 g55_1 P7 P8 P9) hZ (own_w hw 64 rfl) (own_w hw 17 rfl) (by decide) (by decide)) (g := (mkF m 32 #[lvR sr_, lvI (0 : Int32), lvI (4 : Int32), lvR b1, lvI (3 : Int32), lvR nnb3_1_55] [(.int (3 : Int32)), (.ref nnb3_1_55)])) rfl (by rw [hml]; rfl) (argsL := [(.ref nnb3_1_55), (.int (3 : Int32))]) (rest := []) (lenOf pd_5 rfl) rfl (by show 2 * 0 + _ ≤ _; exact Nat.le_of_eq rfl) (hb hby d2_32) (fun _ _ => ⟨rfl, e55, (by decide : 2 + 0 ≤ _), (by decide : 12 + 0 ≤ _)⟩)
    dsimp only [Pt.U, Pt.locs, Pt.cells, Pt.slots] at X63 l63 y63 z63 st63 hQ63
    subst l63 y63 z63
    obtain ⟨h63, e63⟩ : ∃ z, T63.heap = z := ⟨_, rfl⟩
    rw [e63] at hQ63
    obtain ⟨rfl, N63q, hh63⟩ := hQ63
    have N65 := Fr.app N58 N63q
    have e63' : T63.heap = h55 := e63.trans hh63
    have hn66 : (255 : Int32) < ((((((x3_ >>> ((0 : Int32) &&& 31)).toInt8.toInt32) &&& (255 : Int32)) <<< ((0 : Int32) &&& 31)) ||| ((((x3_ >>> ((8 : Int32) &&& 31)).toInt8.toInt32) &&& (255 : Int32)) <<< ((8 : Int32) &&& 31))).toUInt32.toUInt16.toUInt32.toInt32) := own_getc hc3_ hq5_3_3
    have pre67 : ∀ t, own_S p e below m T63 56 #[lvR sr_, lvI (0 : Int32), lvI (4 : Int32), lvR b1, lvI (3 : Int32), lvR nnb3_1_55] [(.ref nnb3_1_55)] t → G t := by
      intro t kt
      refine pre0 t ?_
      show own_S p e below m s₁ 0 #[lvR sr_, lvI (0 : Int32), lvI (4 : Int32), .unset, .unset, .unset] [] _
      refine XS.iloadN X0.here hx rfl (hb hby d2_0) rfl ?_
      show own_S p e below m s₁ 1 #[lvR sr_, lvI (0 : Int32), lvI (4 : Int32), .unset, .unset, .unset] [(.int (4 : Int32))] _
      refine st1 _ ?_
      refine XS.astoreN X1.here hx rfl (hb hby d2_3) rfl rfl (l' := #[lvR sr_, lvI (0 : Int32), lvI (4 : Int32), lvR b1, .unset, .unset]) rfl ?_
      refine XS.aloadN X1.here hx rfl (hb hby d2_4) rfl rfl ?_
      refine XS.iloadN X1.here hx rfl (hb hby d2_5) rfl ?_
      refine XS.aloadN X1.here hx rfl (hb hby d2_6) rfl rfl ?_
      refine XS.iconst X1.here hx rfl (hb hby d2_7) ?_
      show own_S p e below m T1 8 #[lvR sr_, lvI (0 : Int32), lvI (4 : Int32), lvR b1, .unset, .unset] [(.int (0 : Int32)), (.ref b1), (.int (0 : Int32)), (.ref sr_)] _
      refine XS.iloadN X1.here hx rfl (hb hby d2_8) rfl ?_
      show own_S p e below m T1 9 #[lvR sr_, lvI (0 : Int32), lvI (4 : Int32), lvR b1, .unset, .unset] [(.int (4 : Int32)), (.int (0 : Int32)), (.ref b1), (.int (0 : Int32)), (.ref sr_)] _
      refine st5 _ ?_
      refine XS.istore X5.here hx rfl (hb hby d2_12) rfl (l' := #[lvR sr_, lvI (0 : Int32), lvI (4 : Int32), lvR b1, lvI (3 : Int32), .unset]) rfl ?_
      refine XS.iload X5.here hx rfl (hb hby d2_14) rfl ?_
      refine XS.iloadN X5.here hx rfl (hb hby d2_16) rfl ?_
      show own_S p e below m T5 17 #[lvR sr_, lvI (0 : Int32), lvI (4 : Int32), lvR b1, lvI (3 : Int32), .unset] [(.int (4 : Int32)), (.int (3 : Int32))] _
      refine XS.icmpNo X5.here hx rfl (hb hby d2_17) rfl (feq (by decide : ¬ ((3 : Int32) = (4 : Int32)))).1 ?_
      refine XS.aloadN X5.here hx rfl (hb hby d2_20) rfl rfl ?_
      refine XS.iloadN X5.here hx rfl (hb hby d2_21) rfl ?_
      refine XS.iloadN X5.here hx rfl (hb hby d2_22) rfl ?_
      show own_S p e below m T5 23 #[lvR sr_, lvI (0 : Int32), lvI (4 : Int32), lvR b1, lvI (3 : Int32), .unset] [(.int (4 : Int32)), (.int (0 : Int32)), (.ref sr_)] _
      refine st55 _ ?_
      refine XS.astore X55.here hx rfl (hb hby d2_26) rfl rfl (l' := #[lvR sr_, lvI (0 : Int32), lvI (4 : Int32), lvR b1, lvI (3 : Int32), lvR nnb3_1_55]) rfl ?_
      refine XS.aload X55.here hx rfl (hb hby d2_28) rfl rfl ?_
      refine XS.iload X55.here hx rfl (hb hby d2_30) rfl ?_
      show own_S p e below m T55 32 #[lvR sr_, lvI (0 : Int32), lvI (4 : Int32), lvR b1, lvI (3 : Int32), lvR nnb3_1_55] [(.int (3 : Int32)), (.ref nnb3_1_55)] _
      refine st63 _ ?_
      refine XS.sipush X63.here hx rfl (hb hby d2_35) ?_
      show own_S p e below m T63 38 #[lvR sr_, lvI (0 : Int32), lvI (4 : Int32), lvR b1, lvI (3 : Int32), lvR nnb3_1_55] [(.int (255 : Int32)), (.int ((((((x3_ >>> ((0 : Int32) &&& 31)).toInt8.toInt32) &&& (255 : Int32)) <<< ((0 : Int32) &&& 31)) ||| ((((x3_ >>> ((8 : Int32) &&& 31)).toInt8.toInt32) &&& (255 : Int32)) <<< ((8 : Int32) &&& 31))).toUInt32.toUInt16.toUInt32.toInt32))] _
      refine XS.icmpYes X63.here hx rfl (pc0 := 38) (pc' := 54) rfl (hb hby d2_38) rfl (tlt hn66).2.2.1 (by decide) (by decide) ?_
      refine XS.aload X63.here hx rfl (hb hby d2_54) rfl rfl ?_
      exact kt
    have f69 : Keep h0 h55 [] := f61.trans K55 all0
    obtain ⟨fs, hr, hrun, hended, hW, hsame⟩ := X63.leave (v := some (.ref nnb3_1_55)) (fun h => by rw [Bd.returns] at h; cases h)
    refine ⟨_, _, hG _ (pre67 _ (retOut X63 hx Bd.returns rfl (Or.inr (Or.inr (Or.inr (Or.inr ⟨rfl, rfl, rfl⟩)))) (hb hby d2_56) hr)), hrun, hended, _, _, rfl, ?_, ⟨_, rfl⟩, hW, hsame.mono (by decide) (by decide)⟩
    show QCq4 Z sr_ ks_ x0_ x1_ x2_ x3_ w_COMPACT_STRINGS h0 n0 _ T63.heap _
    rw [e63']
    exact ⟨k3_1_55, (8 : Int32), [(.int ((x0_ >>> ((0 : Int32) &&& 31)).toInt8.toInt32)), (.int ((x0_ >>> ((8 : Int32) &&& 31)).toInt8.toInt32)), (.int ((x1_ >>> ((0 : Int32) &&& 31)).toInt8.toInt32)), (.int ((x1_ >>> ((8 : Int32) &&& 31)).toInt8.toInt32)), (.int ((x2_ >>> ((0 : Int32) &&& 31)).toInt8.toInt32)), (.int ((x2_ >>> ((8 : Int32) &&& 31)).toInt8.toInt32)), (.int ((x3_ >>> ((0 : Int32) &&& 31)).toInt8.toInt32)), (.int ((x3_ >>> ((8 : Int32) &&& 31)).toInt8.toInt32))], nnb3_1_55, rfl, N65, f69, sz62, g55_1, g55_0, (Or.inr (by decide))⟩
  · have pre70 : ∀ t, own_S p e below m T5 58 #[lvR sr_, lvI (0 : Int32), lvI (4 : Int32), lvR b1, lvI (4 : Int32), .unset] [(.ref b1)] t → G t := by
      intro t kt
      refine pre0 t ?_
      show own_S p e below m s₁ 0 #[lvR sr_, lvI (0 : Int32), lvI (4 : Int32), .unset, .unset, .unset] [] _
      refine XS.iloadN X0.here hx rfl (hb hby d2_0) rfl ?_
      show own_S p e below m s₁ 1 #[lvR sr_, lvI (0 : Int32), lvI (4 : Int32), .unset, .unset, .unset] [(.int (4 : Int32))] _
      refine st1 _ ?_
      refine XS.astoreN X1.here hx rfl (hb hby d2_3) rfl rfl (l' := #[lvR sr_, lvI (0 : Int32), lvI (4 : Int32), lvR b1, .unset, .unset]) rfl ?_
      refine XS.aloadN X1.here hx rfl (hb hby d2_4) rfl rfl ?_
      refine XS.iloadN X1.here hx rfl (hb hby d2_5) rfl ?_
      refine XS.aloadN X1.here hx rfl (hb hby d2_6) rfl rfl ?_
      refine XS.iconst X1.here hx rfl (hb hby d2_7) ?_
      show own_S p e below m T1 8 #[lvR sr_, lvI (0 : Int32), lvI (4 : Int32), lvR b1, .unset, .unset] [(.int (0 : Int32)), (.ref b1), (.int (0 : Int32)), (.ref sr_)] _
      refine XS.iloadN X1.here hx rfl (hb hby d2_8) rfl ?_
      show own_S p e below m T1 9 #[lvR sr_, lvI (0 : Int32), lvI (4 : Int32), lvR b1, .unset, .unset] [(.int (4 : Int32)), (.int (0 : Int32)), (.ref b1), (.int (0 : Int32)), (.ref sr_)] _
      refine st5 _ ?_
      refine XS.istore X5.here hx rfl (hb hby d2_12) rfl (l' := #[lvR sr_, lvI (0 : Int32), lvI (4 : Int32), lvR b1, lvI (4 : Int32), .unset]) rfl ?_
      refine XS.iload X5.here hx rfl (hb hby d2_14) rfl ?_
      refine XS.iloadN X5.here hx rfl (hb hby d2_16) rfl ?_
      show own_S p e below m T5 17 #[lvR sr_, lvI (0 : Int32), lvI (4 : Int32), lvR b1, lvI (4 : Int32), .unset] [(.int (4 : Int32)), (.int (4 : Int32))] _
      refine XS.icmpYes X5.here hx rfl (pc0 := 17) (pc' := 57) rfl (hb hby d2_17) rfl (teq (by decide : (4 : Int32) = (4 : Int32))).1 (by decide) (by decide) ?_
      refine XS.aloadN X5.here hx rfl (hb hby d2_57) rfl rfl ?_
      exact kt
    have f72 : Exa Z h5 b1 "[B" := Z1.keep K5
    have f73 : Keep h0 h1 [] := K0.ext E1
    have f74 : Keep h0 h5 [] := f73.trans K5 (allS (Or.inr sz3) all0)
    obtain ⟨fs, hr, hrun, hended, hW, hsame⟩ := X5.leave (v := some (.ref b1)) (fun h => by rw [Bd.returns] at h; cases h)
    refine ⟨_, _, hG _ (pre70 _ (retOut X5 hx Bd.returns rfl (Or.inr (Or.inr (Or.inr (Or.inr ⟨rfl, rfl, rfl⟩)))) (hb hby d2_58) hr)), hrun, hended, _, _, rfl, ?_, ⟨_, rfl⟩, hW, hsame.mono (by decide) (by decide)⟩
    show QCq4 Z sr_ ks_ x0_ x1_ x2_ x3_ w_COMPACT_STRINGS h0 n0 _ T5.heap _
    rw [e5]
    exact ⟨k1, (4 : Int32), vs_w_5, b1, rfl, N9, f74, sz3, f72, g5_0, (Or.inl rfl)⟩
theorem efcoderFromArrayLen51 (m : MethodId) (o0_ : Addr) : entryFrame m #[(.ref o0_), (.int (4 : Int32))] 2 = mkF m 0 #[lvR o0_, lvI (4 : Int32)] [] := by first | (simp [entryFrame, mkF, argsToLocals, Value.category]; done) | rfl
def QcoderFromArrayLen51 (Z : State) (o0_ : Addr) (ko0_ : ClassId) (lo0_ : List Value) (h0 : Heap) (n0 : Nat) (v : Option Value) (h : Heap) (L : List Loc) : Prop := v = some (.int (0 : Int32)) ∧ Fr n0 L ∧ h = h0
set_option maxRecDepth 65536 in
set_option maxHeartbeats 40000000 in
theorem rmcoderFromArrayLen51 (l : Launch) (Z : State) (a0 : Array Value) (hw : ∀ d ∈ tables_1, d.before a0 Z = true) (ws : List Jvm.Cond) (o0_ : Addr) (ko0_ : ClassId) (lo0_ : List Value) (h0 : Heap) (n0 : Nat) (O0 : Old Z n0 h0) (P0 : Exa Z h0 o0_ "[B") (P1 : Arv Z h0 o0_ ko0_ .byte (4 : Int32) lo0_ (.int (0 : Int32))) :
    MetFree l (⟨"java/lang/StringUTF16", "coderFromArrayLen", "([BI)B"⟩ : MethodName) (head1 (Jvm.Cond.code (⟨"java/lang/StringUTF16", "coderFromArrayLen", "([BI)B"⟩ : MethodName) jdk_52_method_15_code 2 (some .byte) :: ws) ({ frames := 0, cells := 0, slots := 0, locals := 0 } : Room)) (fun a U => a = #[(.ref o0_), (.int (4 : Int32))] ∧ Z.Warmed39 U.vm ∧ U.heap = h0) (fun _ _ _ _ _ => True) (fun _ U o U' => ∃ v L, o = .returned v ∧ QcoderFromArrayLen51 Z o0_ ko0_ lo0_ h0 n0 v U'.heap L ∧ FrameEnd U o U' L ({ frames := 0, cells := 0, slots := 0, locals := 0 } : Room).cells ({ frames := 0, cells := 0, slots := 0, locals := 0 } : Room).slots) := by
  refine MetFree.of_bodySF (plainFor_of_name pn_0) hisR ?_
  intro p e s m args below meth c s₁ Bd hml0 hP hK
  obtain ⟨rfl, hZ, hh⟩ := hP
  have hx := Bd.exec
  have hby := Bd.bytes
  have hml : c.maxLocals = 2 := hml0
  have hown : s.vm.findClass "java/lang/StringUTF16" = some m.cls := findClass_of_methodNamed Bd.named
  have hnm := (name_of_methodNamed Bd.named Bd.method).1
  have X0 : Stand p l e ({ frames := 0, cells := 0, slots := 0, locals := 0 } : Room) s m #[(.ref o0_), (.int (4 : Int32))] below meth c s₁ [] 0 0 := Stand.of_body Bd
  have e0 : s₁.heap = h0 := by rw [← hh, Bd.state]; rfl
  have N0 := Fr.nil n0
  obtain ⟨G, pre0, hG⟩ : ∃ G : State → Prop, (∀ t, own_S p e below m s₁ 0 #[lvR o0_, lvI (4 : Int32)] [] t → G t) ∧ (∀ t, G t → Steps p.tables e below (s₁.setTop (entryFrame m #[(.ref o0_), (.int (4 : Int32))] 2)) t) := ⟨fun t => Steps p.tables e below (s₁.setTop (entryFrame m #[(.ref o0_), (.int (4 : Int32))] 2)) t, fun t k => castTop (efcoderFromArrayLen51 m o0_) k, fun _ k => k⟩
  have K0 : Keep h0 h0 [] := Keep.refl _ _
  obtain ⟨c1, r1, q1, s1, z1, y1, G1⟩ := id P1
  have pre2 : ∀ t, own_S p e below m s₁ 8 #[lvR o0_, lvI (4 : Int32)] [(.int (0 : Int32))] t → G t := by
    intro t kt
    refine pre0 t ?_
    show own_S p e below m s₁ 0 #[lvR o0_, lvI (4 : Int32)] [] _
    refine XS.iloadN X0.here hx rfl (hb hby d9_0) rfl ?_
    refine XS.aloadN X0.here hx rfl (hb hby d9_1) rfl rfl ?_
    show own_S p e below m s₁ 2 #[lvR o0_, lvI (4 : Int32)] [(.ref o0_), (.int (4 : Int32))] _
    refine X0.arraylength hx (by rw [e0]; exact r1.1) (State.isArrayOf_alike hZ.alike r1.2.1) (g := (mkF m 2 #[lvR o0_, lvI (4 : Int32)] [(.ref o0_), (.int (4 : Int32))])) rfl rfl (hb hby d9_2) _ ?_
    rw [len_of s1 z1]
    refine XS.isub X0.here hx rfl (hb hby d9_3) rfl ?_
    refine XS.bipush X0.here hx rfl (hb hby d9_4) ?_
    show own_S p e below m s₁ 6 #[lvR o0_, lvI (4 : Int32)] [(.int (31 : Int32)), (.int (0 : Int32))] _
    refine XS.iushr X0.here hx rfl (hb hby d9_6) rfl ?_
    show own_S p e below m s₁ 7 #[lvR o0_, lvI (4 : Int32)] [(.int (0 : Int32))] _
    refine XS.i2b X0.here hx rfl (hb hby d9_7) rfl ?_
    exact kt
  obtain ⟨fs, hr, hrun, hended, hW, hsame⟩ := X0.leave (v := some (.int (0 : Int32))) (fun h => by rw [Bd.returns] at h; cases h)
  refine ⟨_, _, hG _ (pre2 _ (retN X0 hx (t := .byte) Bd.returns (by simp) (hb hby d9_8) hr)), hrun, hended, _, _, rfl, ?_, ⟨_, rfl⟩, hW, hsame.mono (by decide) (by decide)⟩
  show QcoderFromArrayLen51 Z o0_ ko0_ lo0_ h0 n0 _ s₁.heap _
  rw [e0]
  exact ⟨rfl, N0, rfl⟩
theorem efcoderFromArrayLen52 (m : MethodId) (o0_ : Addr) : entryFrame m #[(.ref o0_), (.int (4 : Int32))] 2 = mkF m 0 #[lvR o0_, lvI (4 : Int32)] [] := by first | (simp [entryFrame, mkF, argsToLocals, Value.category]; done) | rfl
def QcoderFromArrayLen52 (Z : State) (o0_ : Addr) (ko0_ : ClassId) (lo0_ : List Value) (h0 : Heap) (n0 : Nat) (v : Option Value) (h : Heap) (L : List Loc) : Prop := v = some (.int (1 : Int32)) ∧ Fr n0 L ∧ h = h0
set_option maxRecDepth 65536 in
set_option maxHeartbeats 40000000 in
theorem rmcoderFromArrayLen52 (l : Launch) (Z : State) (a0 : Array Value) (hw : ∀ d ∈ tables_1, d.before a0 Z = true) (ws : List Jvm.Cond) (o0_ : Addr) (ko0_ : ClassId) (lo0_ : List Value) (h0 : Heap) (n0 : Nat) (O0 : Old Z n0 h0) (P0 : Exa Z h0 o0_ "[B") (P1 : Arv Z h0 o0_ ko0_ .byte (8 : Int32) lo0_ (.int (0 : Int32))) :
    MetFree l (⟨"java/lang/StringUTF16", "coderFromArrayLen", "([BI)B"⟩ : MethodName) (head1 (Jvm.Cond.code (⟨"java/lang/StringUTF16", "coderFromArrayLen", "([BI)B"⟩ : MethodName) jdk_52_method_15_code 2 (some .byte) :: ws) ({ frames := 0, cells := 0, slots := 0, locals := 0 } : Room)) (fun a U => a = #[(.ref o0_), (.int (4 : Int32))] ∧ Z.Warmed39 U.vm ∧ U.heap = h0) (fun _ _ _ _ _ => True) (fun _ U o U' => ∃ v L, o = .returned v ∧ QcoderFromArrayLen52 Z o0_ ko0_ lo0_ h0 n0 v U'.heap L ∧ FrameEnd U o U' L ({ frames := 0, cells := 0, slots := 0, locals := 0 } : Room).cells ({ frames := 0, cells := 0, slots := 0, locals := 0 } : Room).slots) := by
  refine MetFree.of_bodySF (plainFor_of_name pn_0) hisR ?_
  intro p e s m args below meth c s₁ Bd hml0 hP hK
  obtain ⟨rfl, hZ, hh⟩ := hP
  have hx := Bd.exec
  have hby := Bd.bytes
  have hml : c.maxLocals = 2 := hml0
  have hown : s.vm.findClass "java/lang/StringUTF16" = some m.cls := findClass_of_methodNamed Bd.named
  have hnm := (name_of_methodNamed Bd.named Bd.method).1
  have X0 : Stand p l e ({ frames := 0, cells := 0, slots := 0, locals := 0 } : Room) s m #[(.ref o0_), (.int (4 : Int32))] below meth c s₁ [] 0 0 := Stand.of_body Bd
  have e0 : s₁.heap = h0 := by rw [← hh, Bd.state]; rfl
  have N0 := Fr.nil n0
  obtain ⟨G, pre0, hG⟩ : ∃ G : State → Prop, (∀ t, own_S p e below m s₁ 0 #[lvR o0_, lvI (4 : Int32)] [] t → G t) ∧ (∀ t, G t → Steps p.tables e below (s₁.setTop (entryFrame m #[(.ref o0_), (.int (4 : Int32))] 2)) t) := ⟨fun t => Steps p.tables e below (s₁.setTop (entryFrame m #[(.ref o0_), (.int (4 : Int32))] 2)) t, fun t k => castTop (efcoderFromArrayLen52 m o0_) k, fun _ k => k⟩
  have K0 : Keep h0 h0 [] := Keep.refl _ _
  obtain ⟨c1, r1, q1, s1, z1, y1, G1⟩ := id P1
  have pre2 : ∀ t, own_S p e below m s₁ 8 #[lvR o0_, lvI (4 : Int32)] [(.int (1 : Int32))] t → G t := by
    intro t kt
    refine pre0 t ?_
    show own_S p e below m s₁ 0 #[lvR o0_, lvI (4 : Int32)] [] _
    refine XS.iloadN X0.here hx rfl (hb hby d9_0) rfl ?_
    refine XS.aloadN X0.here hx rfl (hb hby d9_1) rfl rfl ?_
    show own_S p e below m s₁ 2 #[lvR o0_, lvI (4 : Int32)] [(.ref o0_), (.int (4 : Int32))] _
    refine X0.arraylength hx (by rw [e0]; exact r1.1) (State.isArrayOf_alike hZ.alike r1.2.1) (g := (mkF m 2 #[lvR o0_, lvI (4 : Int32)] [(.ref o0_), (.int (4 : Int32))])) rfl rfl (hb hby d9_2) _ ?_
    rw [len_of s1 z1]
    refine XS.isub X0.here hx rfl (hb hby d9_3) rfl ?_
    refine XS.bipush X0.here hx rfl (hb hby d9_4) ?_
    show own_S p e below m s₁ 6 #[lvR o0_, lvI (4 : Int32)] [(.int (31 : Int32)), (.int (-4 : Int32))] _
    refine XS.iushr X0.here hx rfl (hb hby d9_6) rfl ?_
    show own_S p e below m s₁ 7 #[lvR o0_, lvI (4 : Int32)] [(.int (1 : Int32))] _
    refine XS.i2b X0.here hx rfl (hb hby d9_7) rfl ?_
    exact kt
  obtain ⟨fs, hr, hrun, hended, hW, hsame⟩ := X0.leave (v := some (.int (1 : Int32))) (fun h => by rw [Bd.returns] at h; cases h)
  refine ⟨_, _, hG _ (pre2 _ (retN X0 hx (t := .byte) Bd.returns (by simp) (hb hby d9_8) hr)), hrun, hended, _, _, rfl, ?_, ⟨_, rfl⟩, hW, hsame.mono (by decide) (by decide)⟩
  show QcoderFromArrayLen52 Z o0_ ko0_ lo0_ h0 n0 _ s₁.heap _
  rw [e0]
  exact ⟨rfl, N0, rfl⟩
theorem efIa4 (m : MethodId) (o_ : Addr) (sr_ : Addr) : entryFrame m #[(.ref o_), (.ref sr_), (.int (0 : Int32)), (.int (4 : Int32)), .null] 6 = mkF m 0 #[lvR o_, lvR sr_, lvI (0 : Int32), lvI (4 : Int32), .val .null, .unset] [] := by first | (simp [entryFrame, mkF, argsToLocals, Value.category]; done) | rfl
def QIa4 (Z : State) (o_ : Addr) (sr_ : Addr) (ks_ : ClassId) (x0_ : Int32) (x1_ : Int32) (x2_ : Int32) (x3_ : Int32) (u_coder_o_ : Int32) (u_value_o_ : Value) (w_COMPACT_STRINGS : Int32) (h0 : Heap) (n0 : Nat) (v : Option Value) (h : Heap) (L : List Loc) : Prop := ∃ k_w : ClassId, ∃ z_w : Int32, ∃ vs_w : List Value, ∃ nw_ : Addr, v = none ∧ Fr n0 L ∧ Keep h0 h [o_] ∧ h0.size ≤ nw_ ∧ Fld Z h o_ "java/lang/String" "value" "[B" (.ref nw_) ∧ Exa Z h nw_ "[B" ∧ Arv Z h nw_ k_w .byte z_w vs_w (.int (0 : Int32)) ∧ ¬ (z_w = (0 : Int32))
set_option maxRecDepth 65536 in
set_option maxHeartbeats 40000000 in
theorem rmIa4 (l : Launch) (Z : State) (a0 : Array Value) (hw : ∀ d ∈ tables_1, d.before a0 Z = true) (ws : List Jvm.Cond) (o_ : Addr) (sr_ : Addr) (ks_ : ClassId) (x0_ : Int32) (x1_ : Int32) (x2_ : Int32) (x3_ : Int32) (u_coder_o_ : Int32) (u_value_o_ : Value) (w_COMPACT_STRINGS : Int32) (h0 : Heap) (n0 : Nat) (O0 : Old Z n0 h0) (hc0_ : own_chr x0_) (hc1_ : own_chr x1_) (hc2_ : own_chr x2_) (hc3_ : own_chr x3_) (hz_0 : ¬ (w_COMPACT_STRINGS = (0 : Int32))) (P5 : Exa Z h0 o_ "java/lang/String") (P6 : Fld Z h0 o_ "java/lang/String" "coder" "B" (.int u_coder_o_)) (P7 : Fld Z h0 o_ "java/lang/String" "value" "[B" u_value_o_) (P8 : Arv Z h0 sr_ ks_ .char (4 : Int32) [(.int x0_), (.int x1_), (.int x2_), (.int x3_)] (.int (0 : Int32))) (P9 : Sta Z Z.heap "java/lang/String" "COMPACT_STRINGS" "Z" (.int w_COMPACT_STRINGS)) (P10 : Sta Z Z.heap "java/lang/StringUTF16" "$assertionsDisabled" "Z" (.int (1 : Int32))) (P11 : Sta Z Z.heap "java/lang/StringUTF16" "HI_BYTE_SHIFT" "I" (.int (0 : Int32))) (P12 : Sta Z Z.heap "java/lang/StringUTF16" "LO_BYTE_SHIFT" "I" (.int (8 : Int32))) (P13 : n0 ≤ o_) :
    MetFree l (⟨"java/lang/String", "<init>", "([CIILjava/lang/Void;)V"⟩ : MethodName) (head1 (Jvm.Cond.code (⟨"java/lang/String", "<init>", "([CIILjava/lang/Void;)V"⟩ : MethodName) jdk_42_method_149_code 6 none :: ws) ({ frames := 4, cells := 2, slots := 12, locals := 57 } : Room)) (fun a U => a = #[(.ref o_), (.ref sr_), (.int (0 : Int32)), (.int (4 : Int32)), .null] ∧ Z.Warmed39 U.vm ∧ U.heap = h0) (fun _ _ _ _ _ => True) (fun _ U o U' => ∃ v L, o = .returned v ∧ QIa4 Z o_ sr_ ks_ x0_ x1_ x2_ x3_ u_coder_o_ u_value_o_ w_COMPACT_STRINGS h0 n0 v U'.heap L ∧ FrameEnd U o U' L ({ frames := 4, cells := 2, slots := 12, locals := 57 } : Room).cells ({ frames := 4, cells := 2, slots := 12, locals := 57 } : Room).slots) := by
  refine MetFree.of_bodySF (plainFor_of_name pn_1) hisR ?_
  intro p e s m args below meth c s₁ Bd hml0 hP hK
  obtain ⟨rfl, hZ, hh⟩ := hP
  have hx := Bd.exec
  have hby := Bd.bytes
  have hml : c.maxLocals = 6 := hml0
  have hown : s.vm.findClass "java/lang/String" = some m.cls := findClass_of_methodNamed Bd.named
  have hnm := (name_of_methodNamed Bd.named Bd.method).1
  have X0 : Stand p l e ({ frames := 4, cells := 2, slots := 12, locals := 57 } : Room) s m #[(.ref o_), (.ref sr_), (.int (0 : Int32)), (.int (4 : Int32)), .null] below meth c s₁ [] 0 0 := Stand.of_body Bd
  have e0 : s₁.heap = h0 := by rw [← hh, Bd.state]; rfl
  have N0 := Fr.nil n0
  obtain ⟨G, pre0, hG⟩ : ∃ G : State → Prop, (∀ t, own_S p e below m s₁ 0 #[lvR o_, lvR sr_, lvI (0 : Int32), lvI (4 : Int32), .val .null, .unset] [] t → G t) ∧ (∀ t, G t → Steps p.tables e below (s₁.setTop (entryFrame m #[(.ref o_), (.ref sr_), (.int (0 : Int32)), (.int (4 : Int32)), .null] 6)) t) := ⟨fun t => Steps p.tables e below (s₁.setTop (entryFrame m #[(.ref o_), (.ref sr_), (.int (0 : Int32)), (.int (4 : Int32)), .null] 6)) t, fun t k => castTop (efIa4 m o_ sr_) k, fun _ k => k⟩
  have K0 : Keep h0 h0 [o_] := Keep.refl _ _
  obtain ⟨T1, X1, e1, st1⟩ := initO X0 hx hZ hown (own_w hw 11 rfl) (own_w hw 12 rfl) (own_w hw 13 rfl) e0 (g := (mkF m 1 #[lvR o_, lvR sr_, lvI (0 : Int32), lvI (4 : Int32), .val .null, .unset] [(.ref o_)])) rfl (by rw [hml]; rfl) rfl (hb hby d8_1) (by decide) (W := 0) (by show 2 * 0 + _ ≤ _; exact Nat.le_of_eq rfl) (by decide)
  obtain ⟨T2, X2, e2, st2⟩ := getS2 X1 hx hZ hown (host := "") (Or.inl (own_w hw 14 rfl)) Via.refl e1 (P9.ext O0.2) (g := (mkF m 27 #[lvR o_, lvR sr_, lvI (0 : Int32), lvI (4 : Int32), .val .null, .unset] [])) rfl (hb hby d8_27)
  obtain ⟨_, _, ⟨T3, L3, k3, n3⟩, -, X3, ⟨Lc3, hQ3, l3, y3, z3⟩, st3⟩ := Jvm.LawKit.callS X2 hx (y := (⟨"java/lang/StringUTF16", "compress", "([CII)[B"⟩ : MethodName)) hown (mvT hZ (own_w hw 15 rfl)) (mvT hZ (own_w hw 16 rfl)) (mvT hZ (own_w hw 17 rfl)) (mvT hZ (own_w hw 18 rfl)) (by decide) (backOf (W := 0) (rmCq4 l Z a0 hw [] sr_ ks_ x0_ x1_ x2_ x3_ w_COMPACT_STRINGS h0 n0 O0 hc0_ hc1_ hc2_ hc3_ hz_0 P8 P9 P10 P11 P12) hZ (own_w hw 18 rfl) (own_w hw 17 rfl) (by decide) (by decide)) (g := (mkF m 36 #[lvR o_, lvR sr_, lvI (0 : Int32), lvI (4 : Int32), .val .null, .unset] [(.int (4 : Int32)), (.int (0 : Int32)), (.ref sr_)])) rfl (by rw [hml]; rfl) (argsL := [(.ref sr_), (.int (0 : Int32)), (.int (4 : Int32))]) (rest := []) (lenOf pd_4 rfl) rfl (by show 2 * 0 + _ ≤ _; exact Nat.le_of_eq rfl) (hb hby d8_36) (fun _ _ => ⟨rfl, e2, (by decide : 0 + 2 ≤ _), (by decide : 0 + 12 ≤ _)⟩)
  dsimp only [Pt.U, Pt.locs, Pt.cells, Pt.slots] at X3 l3 y3 z3 st3 hQ3
  subst l3 y3 z3
  obtain ⟨h3, e3⟩ : ∃ z, T3.heap = z := ⟨_, rfl⟩
  rw [e3] at hQ3
  obtain ⟨k_w_3, z_w_3, vs_w_3, nw__3, rfl, N3q, K3, sznw__3, g3_0, g3_1, qx3_0⟩ := hQ3
  have N4 := Fr.app N0 N3q
  have ge5 : n0 ≤ nw__3 := Nat.le_trans (Nat.le_trans (Nat.le_of_eq O0.1.symm) O0.2.1) sznw__3
  have sz6 : h0.size ≤ nw__3 := Nat.le_trans K0.1 sznw__3
  have pre7 : ∀ t, own_S p e below m T3 41 #[lvR o_, lvR sr_, lvI (0 : Int32), lvI (4 : Int32), .val .null, lvR nw__3] [] t → G t := by
    intro t kt
    refine pre0 t ?_
    show own_S p e below m s₁ 0 #[lvR o_, lvR sr_, lvI (0 : Int32), lvI (4 : Int32), .val .null, .unset] [] _
    refine XS.aloadN X0.here hx rfl (hb hby d8_0) rfl rfl ?_
    show own_S p e below m s₁ 1 #[lvR o_, lvR sr_, lvI (0 : Int32), lvI (4 : Int32), .val .null, .unset] [(.ref o_)] _
    refine st1 _ ?_
    refine XS.iloadN X1.here hx rfl (hb hby d8_4) rfl ?_
    show own_S p e below m T1 5 #[lvR o_, lvR sr_, lvI (0 : Int32), lvI (4 : Int32), .val .null, .unset] [(.int (4 : Int32))] _
    refine XS.ifYes X1.here hx rfl (pc0 := 5) (pc' := 27) rfl (hb hby d8_5) rfl ((if0 _ _).trans (feq (by decide : ¬ ((4 : Int32) = (0 : Int32)))).2) (by decide) (by decide) ?_
    show own_S p e below m T1 27 #[lvR o_, lvR sr_, lvI (0 : Int32), lvI (4 : Int32), .val .null, .unset] [] _
    refine st2 _ ?_
    show own_S p e below m T2 30 #[lvR o_, lvR sr_, lvI (0 : Int32), lvI (4 : Int32), .val .null, .unset] [(.int w_COMPACT_STRINGS)] _
    refine XS.ifNo X2.here hx rfl (hb hby d8_30) rfl ((if0 _ _).trans (feq hz_0).1) ?_
    refine XS.aloadN X2.here hx rfl (hb hby d8_33) rfl rfl ?_
    refine XS.iloadN X2.here hx rfl (hb hby d8_34) rfl ?_
    refine XS.iloadN X2.here hx rfl (hb hby d8_35) rfl ?_
    show own_S p e below m T2 36 #[lvR o_, lvR sr_, lvI (0 : Int32), lvI (4 : Int32), .val .null, .unset] [(.int (4 : Int32)), (.int (0 : Int32)), (.ref sr_)] _
    refine st3 _ ?_
    refine XS.astore X3.here hx rfl (hb hby d8_39) rfl rfl (l' := #[lvR o_, lvR sr_, lvI (0 : Int32), lvI (4 : Int32), .val .null, lvR nw__3]) rfl ?_
    exact kt
  rcases qx3_0 with hz8 | hz8
  · have f9 : Arv Z h3 nw__3 k_w_3 .byte (4 : Int32) vs_w_3 (.int (0 : Int32)) := by have q := g3_1; rw [hz8] at q; exact q
    have f11 : Old Z n0 h3 := O0.keep K3 all0
    obtain ⟨_, _, ⟨T10, L10, k10, n10⟩, -, X10, ⟨Lc10, hQ10, l10, y10, z10⟩, st10⟩ := Jvm.LawKit.callS X3 hx (y := (⟨"java/lang/StringUTF16", "coderFromArrayLen", "([BI)B"⟩ : MethodName)) hown (mvT hZ (own_w hw 23 rfl)) (mvT hZ (own_w hw 24 rfl)) (mvT hZ (own_w hw 17 rfl)) (mvT hZ (own_w hw 25 rfl)) (by decide) (backOf (W := 1) (rmcoderFromArrayLen51 l Z a0 hw [] nw__3 k_w_3 vs_w_3 h3 n0 f11 g3_0 f9) hZ (own_w hw 25 rfl) (own_w hw 17 rfl) (by decide) (by decide)) (g := (mkF m 45 #[lvR o_, lvR sr_, lvI (0 : Int32), lvI (4 : Int32), .val .null, lvR nw__3] [(.int (4 : Int32)), (.ref nw__3), (.ref o_)])) rfl (by rw [hml]; rfl) (argsL := [(.ref nw__3), (.int (4 : Int32))]) (rest := [(.ref o_)]) (lenOf pd_6 rfl) rfl (by show 2 * 0 + _ ≤ _; exact Nat.le_of_eq rfl) (hb hby d8_45) (fun _ _ => ⟨rfl, e3, (by decide : 2 + 0 ≤ _), (by decide : 12 + 0 ≤ _)⟩)
    dsimp only [Pt.U, Pt.locs, Pt.cells, Pt.slots] at X10 l10 y10 z10 st10 hQ10
    subst l10 y10 z10
    obtain ⟨h10, e10⟩ : ∃ z, T10.heap = z := ⟨_, rfl⟩
    rw [e10] at hQ10
    obtain ⟨rfl, N10q, hh10⟩ := hQ10
    have N12 := Fr.app N4 N10q
    have e10' : T10.heap = h3 := e10.trans hh10
    have f13 : Fld Z h3 o_ "java/lang/String" "coder" "B" (.int u_coder_o_) := P6.keep K3 nin0
    have f14 : Exa Z h3 o_ "java/lang/String" := P5.keep K3
    obtain ⟨T15, h15, X15, e15, W15, st15⟩ := putF X10 hx hZ hown (host := "") (Or.inl (own_w hw 26 rfl)) Via.refl e10' f13 f14 (Or.inr ⟨(own_w hw 27 rfl), rfl, hnm⟩) (own_w hw 1 rfl) (ty := .byte) (by decide) rfl rfl (g := (mkF m 48 #[lvR o_, lvR sr_, lvI (0 : Int32), lvI (4 : Int32), .val .null, lvR nw__3] [(.int (0 : Int32)), (.ref o_)])) rfl rfl (hb hby d8_48)
    have N16 := Fr.snoc X15 N12 P13
    have f17 : Fld Z h15 o_ "java/lang/String" "coder" "B" (.int (0 : Int32)) := f13.same W15
    have f18 : Fld Z h3 o_ "java/lang/String" "value" "[B" u_value_o_ := P7.keep K3 nin0
    have f19 : Fld Z h15 o_ "java/lang/String" "value" "[B" u_value_o_ := f18.other W15 (Or.inr (slot_ne (Or.inr (own_w hw 29 rfl)) (Or.inr (own_w hw 27 rfl)) (by decide) (t := (.array .byte)) (t' := .byte) (by decide) (by decide)))
    have f20 : Exa Z h15 o_ "java/lang/String" := f14.wr W15
    obtain ⟨T21, h21, X21, e21, W21, st21⟩ := putF X15 hx hZ hown (host := "") (Or.inl (own_w hw 28 rfl)) Via.refl e15 f19 f20 (Or.inr ⟨(own_w hw 29 rfl), rfl, hnm⟩) (own_w hw 1 rfl) (ty := (.array .byte)) (by decide) rfl rfl (g := (mkF m 54 #[lvR o_, lvR sr_, lvI (0 : Int32), lvI (4 : Int32), .val .null, lvR nw__3] [(.ref nw__3), (.ref o_)])) rfl rfl (hb hby d8_54)
    have N22 := Fr.snoc X21 N16 P13
    have f23 : Fld Z h21 o_ "java/lang/String" "value" "[B" (.ref nw__3) := f19.same W21
    have pre24 : ∀ t, own_S p e below m T21 57 #[lvR o_, lvR sr_, lvI (0 : Int32), lvI (4 : Int32), .val .null, lvR nw__3] [] t → G t := by
      intro t kt
      refine pre7 t ?_
      show own_S p e below m T3 41 #[lvR o_, lvR sr_, lvI (0 : Int32), lvI (4 : Int32), .val .null, lvR nw__3] [] _
      refine XS.aloadN X3.here hx rfl (hb hby d8_41) rfl rfl ?_
      refine XS.aload X3.here hx rfl (hb hby d8_42) rfl rfl ?_
      refine XS.iloadN X3.here hx rfl (hb hby d8_44) rfl ?_
      show own_S p e below m T3 45 #[lvR o_, lvR sr_, lvI (0 : Int32), lvI (4 : Int32), .val .null, lvR nw__3] [(.int (4 : Int32)), (.ref nw__3), (.ref o_)] _
      refine st10 _ ?_
      show own_S p e below m T10 48 #[lvR o_, lvR sr_, lvI (0 : Int32), lvI (4 : Int32), .val .null, lvR nw__3] [(.int (0 : Int32)), (.ref o_)] _
      refine st15 _ ?_
      refine XS.aloadN X15.here hx rfl (hb hby d8_51) rfl rfl ?_
      refine XS.aload X15.here hx rfl (hb hby d8_52) rfl rfl ?_
      show own_S p e below m T15 54 #[lvR o_, lvR sr_, lvI (0 : Int32), lvI (4 : Int32), .val .null, lvR nw__3] [(.ref nw__3), (.ref o_)] _
      refine st21 _ ?_
      exact kt
    have f26 : Exa Z h15 nw__3 "[B" := g3_0.wr W15
    have f27 : Exa Z h21 nw__3 "[B" := f26.wr W21
    have ne29 : o_ ≠ nw__3 := Nat.ne_of_lt (Nat.lt_of_lt_of_le P5.lt sznw__3)
    have f28 : Arv Z h15 nw__3 k_w_3 .byte (4 : Int32) vs_w_3 (.int (0 : Int32)) := f9.other W15 (Ne.symm ne29)
    have f30 : Arv Z h21 nw__3 k_w_3 .byte (4 : Int32) vs_w_3 (.int (0 : Int32)) := f28.other W21 (Ne.symm ne29)
    have f31 : Keep h0 h3 [o_] := K0.trans K3 all0
    have f32 : Keep h0 h15 [o_] := f31.wr W15 (Or.inl (List.mem_of_getElem? (i := 0) rfl))
    have f33 : Keep h0 h21 [o_] := f32.wr W21 (Or.inl (List.mem_of_getElem? (i := 0) rfl))
    obtain ⟨fs, hr, hrun, hended, hW, hsame⟩ := X21.leave (v := none) (fun _ => rfl)
    refine ⟨_, _, hG _ (pre24 _ (X21.returnOut hx Bd.returns (hb hby d8_57) hr)), hrun, hended, _, _, rfl, ?_, ⟨_, rfl⟩, hW, hsame.mono (by decide) (by decide)⟩
    show QIa4 Z o_ sr_ ks_ x0_ x1_ x2_ x3_ u_coder_o_ u_value_o_ w_COMPACT_STRINGS h0 n0 _ T21.heap _
    rw [e21]
    exact ⟨k_w_3, (4 : Int32), vs_w_3, nw__3, rfl, N22, f33, sz6, f23, f27, f30, (by decide)⟩
  · have f34 : Arv Z h3 nw__3 k_w_3 .byte (8 : Int32) vs_w_3 (.int (0 : Int32)) := by have q := g3_1; rw [hz8] at q; exact q
    have f36 : Old Z n0 h3 := O0.keep K3 all0
    obtain ⟨_, _, ⟨T35, L35, k35, n35⟩, -, X35, ⟨Lc35, hQ35, l35, y35, z35⟩, st35⟩ := Jvm.LawKit.callS X3 hx (y := (⟨"java/lang/StringUTF16", "coderFromArrayLen", "([BI)B"⟩ : MethodName)) hown (mvT hZ (own_w hw 23 rfl)) (mvT hZ (own_w hw 24 rfl)) (mvT hZ (own_w hw 17 rfl)) (mvT hZ (own_w hw 25 rfl)) (by decide) (backOf (W := 1) (rmcoderFromArrayLen52 l Z a0 hw [] nw__3 k_w_3 vs_w_3 h3 n0 f36 g3_0 f34) hZ (own_w hw 25 rfl) (own_w hw 17 rfl) (by decide) (by decide)) (g := (mkF m 45 #[lvR o_, lvR sr_, lvI (0 : Int32), lvI (4 : Int32), .val .null, lvR nw__3] [(.int (4 : Int32)), (.ref nw__3), (.ref o_)])) rfl (by rw [hml]; rfl) (argsL := [(.ref nw__3), (.int (4 : Int32))]) (rest := [(.ref o_)]) (lenOf pd_6 rfl) rfl (by show 2 * 0 + _ ≤ _; exact Nat.le_of_eq rfl) (hb hby d8_45) (fun _ _ => ⟨rfl, e3, (by decide : 2 + 0 ≤ _), (by decide : 12 + 0 ≤ _)⟩)
    dsimp only [Pt.U, Pt.locs, Pt.cells, Pt.slots] at X35 l35 y35 z35 st35 hQ35
    subst l35 y35 z35
    obtain ⟨h35, e35⟩ : ∃ z, T35.heap = z := ⟨_, rfl⟩
    rw [e35] at hQ35
    obtain ⟨rfl, N35q, hh35⟩ := hQ35
    have N37 := Fr.app N4 N35q
    have e35' : T35.heap = h3 := e35.trans hh35
    have f38 : Fld Z h3 o_ "java/lang/String" "coder" "B" (.int u_coder_o_) := P6.keep K3 nin0
    have f39 : Exa Z h3 o_ "java/lang/String" := P5.keep K3
    obtain ⟨T40, h40, X40, e40, W40, st40⟩ := putF X35 hx hZ hown (host := "") (Or.inl (own_w hw 26 rfl)) Via.refl e35' f38 f39 (Or.inr ⟨(own_w hw 27 rfl), rfl, hnm⟩) (own_w hw 1 rfl) (ty := .byte) (by decide) rfl rfl (g := (mkF m 48 #[lvR o_, lvR sr_, lvI (0 : Int32), lvI (4 : Int32), .val .null, lvR nw__3] [(.int (1 : Int32)), (.ref o_)])) rfl rfl (hb hby d8_48)
    have N41 := Fr.snoc X40 N37 P13
    have f42 : Fld Z h40 o_ "java/lang/String" "coder" "B" (.int (1 : Int32)) := f38.same W40
    have f43 : Fld Z h3 o_ "java/lang/String" "value" "[B" u_value_o_ := P7.keep K3 nin0
    have f44 : Fld Z h40 o_ "java/lang/String" "value" "[B" u_value_o_ := f43.other W40 (Or.inr (slot_ne (Or.inr (own_w hw 29 rfl)) (Or.inr (own_w hw 27 rfl)) (by decide) (t := (.array .byte)) (t' := .byte) (by decide) (by decide)))
    have f45 : Exa Z h40 o_ "java/lang/String" := f39.wr W40
    obtain ⟨T46, h46, X46, e46, W46, st46⟩ := putF X40 hx hZ hown (host := "") (Or.inl (own_w hw 28 rfl)) Via.refl e40 f44 f45 (Or.inr ⟨(own_w hw 29 rfl), rfl, hnm⟩) (own_w hw 1 rfl) (ty := (.array .byte)) (by decide) rfl rfl (g := (mkF m 54 #[lvR o_, lvR sr_, lvI (0 : Int32), lvI (4 : Int32), .val .null, lvR nw__3] [(.ref nw__3), (.ref o_)])) rfl rfl (hb hby d8_54)
    have N47 := Fr.snoc X46 N41 P13
    have f48 : Fld Z h46 o_ "java/lang/String" "value" "[B" (.ref nw__3) := f44.same W46
    have pre49 : ∀ t, own_S p e below m T46 57 #[lvR o_, lvR sr_, lvI (0 : Int32), lvI (4 : Int32), .val .null, lvR nw__3] [] t → G t := by
      intro t kt
      refine pre7 t ?_
      show own_S p e below m T3 41 #[lvR o_, lvR sr_, lvI (0 : Int32), lvI (4 : Int32), .val .null, lvR nw__3] [] _
      refine XS.aloadN X3.here hx rfl (hb hby d8_41) rfl rfl ?_
      refine XS.aload X3.here hx rfl (hb hby d8_42) rfl rfl ?_
      refine XS.iloadN X3.here hx rfl (hb hby d8_44) rfl ?_
      show own_S p e below m T3 45 #[lvR o_, lvR sr_, lvI (0 : Int32), lvI (4 : Int32), .val .null, lvR nw__3] [(.int (4 : Int32)), (.ref nw__3), (.ref o_)] _
      refine st35 _ ?_
      show own_S p e below m T35 48 #[lvR o_, lvR sr_, lvI (0 : Int32), lvI (4 : Int32), .val .null, lvR nw__3] [(.int (1 : Int32)), (.ref o_)] _
      refine st40 _ ?_
      refine XS.aloadN X40.here hx rfl (hb hby d8_51) rfl rfl ?_
      refine XS.aload X40.here hx rfl (hb hby d8_52) rfl rfl ?_
      show own_S p e below m T40 54 #[lvR o_, lvR sr_, lvI (0 : Int32), lvI (4 : Int32), .val .null, lvR nw__3] [(.ref nw__3), (.ref o_)] _
      refine st46 _ ?_
      exact kt
    have f51 : Exa Z h40 nw__3 "[B" := g3_0.wr W40
    have f52 : Exa Z h46 nw__3 "[B" := f51.wr W46
    have ne54 : o_ ≠ nw__3 := Nat.ne_of_lt (Nat.lt_of_lt_of_le P5.lt sznw__3)
    have f53 : Arv Z h40 nw__3 k_w_3 .byte (8 : Int32) vs_w_3 (.int (0 : Int32)) := f34.other W40 (Ne.symm ne54)
    have f55 : Arv Z h46 nw__3 k_w_3 .byte (8 : Int32) vs_w_3 (.int (0 : Int32)) := f53.other W46 (Ne.symm ne54)
    have f56 : Keep h0 h3 [o_] := K0.trans K3 all0
    have f57 : Keep h0 h40 [o_] := f56.wr W40 (Or.inl (List.mem_of_getElem? (i := 0) rfl))
    have f58 : Keep h0 h46 [o_] := f57.wr W46 (Or.inl (List.mem_of_getElem? (i := 0) rfl))
    obtain ⟨fs, hr, hrun, hended, hW, hsame⟩ := X46.leave (v := none) (fun _ => rfl)
    refine ⟨_, _, hG _ (pre49 _ (X46.returnOut hx Bd.returns (hb hby d8_57) hr)), hrun, hended, _, _, rfl, ?_, ⟨_, rfl⟩, hW, hsame.mono (by decide) (by decide)⟩
    show QIa4 Z o_ sr_ ks_ x0_ x1_ x2_ x3_ u_coder_o_ u_value_o_ w_COMPACT_STRINGS h0 n0 _ T46.heap _
    rw [e46]
    exact ⟨k_w_3, (8 : Int32), vs_w_3, nw__3, rfl, N47, f58, sz6, f48, f52, f55, (by decide)⟩
theorem efIb4 (m : MethodId) (o_ : Addr) (sr_ : Addr) : entryFrame m #[(.ref o_), (.ref sr_)] 2 = mkF m 0 #[lvR o_, lvR sr_] [] := by first | (simp [entryFrame, mkF, argsToLocals, Value.category]; done) | rfl
def QIb4 (Z : State) (o_ : Addr) (sr_ : Addr) (ks_ : ClassId) (x0_ : Int32) (x1_ : Int32) (x2_ : Int32) (x3_ : Int32) (u_coder_o_ : Int32) (u_value_o_ : Value) (w_COMPACT_STRINGS : Int32) (h0 : Heap) (n0 : Nat) (v : Option Value) (h : Heap) (L : List Loc) : Prop := ∃ k_w : ClassId, ∃ z_w : Int32, ∃ vs_w : List Value, ∃ nw_ : Addr, v = none ∧ Fr n0 L ∧ Keep h0 h [o_] ∧ h0.size ≤ nw_ ∧ Fld Z h o_ "java/lang/String" "value" "[B" (.ref nw_) ∧ Exa Z h nw_ "[B" ∧ Arv Z h nw_ k_w .byte z_w vs_w (.int (0 : Int32)) ∧ ¬ (z_w = (0 : Int32))
set_option maxRecDepth 65536 in
set_option maxHeartbeats 40000000 in
theorem rmIb4 (l : Launch) (Z : State) (a0 : Array Value) (hw : ∀ d ∈ tables_1, d.before a0 Z = true) (ws : List Jvm.Cond) (o_ : Addr) (sr_ : Addr) (ks_ : ClassId) (x0_ : Int32) (x1_ : Int32) (x2_ : Int32) (x3_ : Int32) (u_coder_o_ : Int32) (u_value_o_ : Value) (w_COMPACT_STRINGS : Int32) (h0 : Heap) (n0 : Nat) (O0 : Old Z n0 h0) (hc0_ : own_chr x0_) (hc1_ : own_chr x1_) (hc2_ : own_chr x2_) (hc3_ : own_chr x3_) (hz_0 : ¬ (w_COMPACT_STRINGS = (0 : Int32))) (P5 : Exa Z h0 o_ "java/lang/String") (P6 : Fld Z h0 o_ "java/lang/String" "coder" "B" (.int u_coder_o_)) (P7 : Fld Z h0 o_ "java/lang/String" "value" "[B" u_value_o_) (P8 : Arv Z h0 sr_ ks_ .char (4 : Int32) [(.int x0_), (.int x1_), (.int x2_), (.int x3_)] (.int (0 : Int32))) (P9 : Sta Z Z.heap "java/lang/String" "COMPACT_STRINGS" "Z" (.int w_COMPACT_STRINGS)) (P10 : Sta Z Z.heap "java/lang/StringUTF16" "$assertionsDisabled" "Z" (.int (1 : Int32))) (P11 : Sta Z Z.heap "java/lang/StringUTF16" "HI_BYTE_SHIFT" "I" (.int (0 : Int32))) (P12 : Sta Z Z.heap "java/lang/StringUTF16" "LO_BYTE_SHIFT" "I" (.int (8 : Int32))) (P13 : n0 ≤ o_) :
    MetFree l (⟨"java/lang/String", "<init>", "([C)V"⟩ : MethodName) (head1 (Jvm.Cond.code (⟨"java/lang/String", "<init>", "([C)V"⟩ : MethodName) jdk_42_method_3_code 2 none :: ws) ({ frames := 5, cells := 2, slots := 12, locals := 74 } : Room)) (fun a U => a = #[(.ref o_), (.ref sr_)] ∧ Z.Warmed39 U.vm ∧ U.heap = h0) (fun _ _ _ _ _ => True) (fun _ U o U' => ∃ v L, o = .returned v ∧ QIb4 Z o_ sr_ ks_ x0_ x1_ x2_ x3_ u_coder_o_ u_value_o_ w_COMPACT_STRINGS h0 n0 v U'.heap L ∧ FrameEnd U o U' L ({ frames := 5, cells := 2, slots := 12, locals := 74 } : Room).cells ({ frames := 5, cells := 2, slots := 12, locals := 74 } : Room).slots) := by
  refine MetFree.of_bodySF (plainFor_of_name pn_1) hisR ?_
  intro p e s m args below meth c s₁ Bd hml0 hP hK
  obtain ⟨rfl, hZ, hh⟩ := hP
  have hx := Bd.exec
  have hby := Bd.bytes
  have hml : c.maxLocals = 2 := hml0
  have hown : s.vm.findClass "java/lang/String" = some m.cls := findClass_of_methodNamed Bd.named
  have hnm := (name_of_methodNamed Bd.named Bd.method).1
  have X0 : Stand p l e ({ frames := 5, cells := 2, slots := 12, locals := 74 } : Room) s m #[(.ref o_), (.ref sr_)] below meth c s₁ [] 0 0 := Stand.of_body Bd
  have e0 : s₁.heap = h0 := by rw [← hh, Bd.state]; rfl
  have N0 := Fr.nil n0
  obtain ⟨G, pre0, hG⟩ : ∃ G : State → Prop, (∀ t, own_S p e below m s₁ 0 #[lvR o_, lvR sr_] [] t → G t) ∧ (∀ t, G t → Steps p.tables e below (s₁.setTop (entryFrame m #[(.ref o_), (.ref sr_)] 2)) t) := ⟨fun t => Steps p.tables e below (s₁.setTop (entryFrame m #[(.ref o_), (.ref sr_)] 2)) t, fun t k => castTop (efIb4 m o_ sr_) k, fun _ k => k⟩
  have K0 : Keep h0 h0 [o_] := Keep.refl _ _
  obtain ⟨c1, r1, q1, s1, z1, y1, G1⟩ := id P8
  obtain ⟨_, _, ⟨T2, L2, k2, n2⟩, -, X2, ⟨Lc2, hQ2, l2, y2, z2⟩, st2⟩ := X0.specialBack hx (y := (⟨"java/lang/String", "<init>", "([CIILjava/lang/Void;)V"⟩ : MethodName)) rfl hown (mvT hZ (own_w hw 7 rfl)) (mvT hZ (own_w hw 8 rfl)) (mvT hZ (own_w hw 10 rfl)) (by decide) (backOf (W := 0) (rmIa4 l Z a0 hw [] o_ sr_ ks_ x0_ x1_ x2_ x3_ u_coder_o_ u_value_o_ w_COMPACT_STRINGS h0 n0 O0 hc0_ hc1_ hc2_ hc3_ hz_0 P5 P6 P7 P8 P9 P10 P11 P12 P13) hZ (own_w hw 10 rfl) (own_w hw 2 rfl) (by decide) (by decide)) (g := (mkF m 6 #[lvR o_, lvR sr_] [.null, (.int (4 : Int32)), (.int (0 : Int32)), (.ref sr_), (.ref o_)])) rfl (by rw [hml]; rfl) (Steps.refl _) (a := o_) (argsL := [(.ref sr_), (.int (0 : Int32)), (.int (4 : Int32)), .null]) (rest := []) (lenOf pd_7 rfl) rfl (by show 2 * 0 + _ ≤ _; exact Nat.le_of_eq rfl) (hb hby d10_6) (fun _ _ => ⟨rfl, e0, (by decide : 0 + 2 ≤ _), (by decide : 0 + 12 ≤ _)⟩)
  dsimp only [Pt.U, Pt.locs, Pt.cells, Pt.slots] at X2 l2 y2 z2 st2 hQ2
  subst l2 y2 z2
  obtain ⟨h2, e2⟩ : ∃ z, T2.heap = z := ⟨_, rfl⟩
  rw [e2] at hQ2
  obtain ⟨k_w_2, z_w_2, vs_w_2, nw__2, rfl, N2q, K2, sznw__2, g2_0, g2_1, g2_2, qx2_0⟩ := hQ2
  have N3 := Fr.app N0 N2q
  have ge4 : n0 ≤ nw__2 := Nat.le_trans (Nat.le_trans (Nat.le_of_eq O0.1.symm) O0.2.1) sznw__2
  have sz5 : h0.size ≤ nw__2 := Nat.le_trans K0.1 sznw__2
  have pre6 : ∀ t, own_S p e below m T2 9 #[lvR o_, lvR sr_] [] t → G t := by
    intro t kt
    refine pre0 t ?_
    show own_S p e below m s₁ 0 #[lvR o_, lvR sr_] [] _
    refine XS.aloadN X0.here hx rfl (hb hby d10_0) rfl rfl ?_
    refine XS.aloadN X0.here hx rfl (hb hby d10_1) rfl rfl ?_
    refine XS.iconst X0.here hx rfl (hb hby d10_2) ?_
    refine XS.aloadN X0.here hx rfl (hb hby d10_3) rfl rfl ?_
    show own_S p e below m s₁ 4 #[lvR o_, lvR sr_] [(.ref sr_), (.int (0 : Int32)), (.ref sr_), (.ref o_)] _
    refine X0.arraylength hx (by rw [e0]; exact r1.1) (State.isArrayOf_alike hZ.alike r1.2.1) (g := (mkF m 4 #[lvR o_, lvR sr_] [(.ref sr_), (.int (0 : Int32)), (.ref sr_), (.ref o_)])) rfl rfl (hb hby d10_4) _ ?_
    rw [len_of s1 z1]
    refine XS.aconstNull X0.here hx rfl (hb hby d10_5) ?_
    show own_S p e below m s₁ 6 #[lvR o_, lvR sr_] [.null, (.int (4 : Int32)), (.int (0 : Int32)), (.ref sr_), (.ref o_)] _
    refine st2.trans ?_
    exact kt
  have f8 : Keep h0 h2 [o_] := K0.trans K2 (allS (Or.inl (List.mem_of_getElem? (i := 0) rfl)) all0)
  obtain ⟨fs, hr, hrun, hended, hW, hsame⟩ := X2.leave (v := none) (fun _ => rfl)
  refine ⟨_, _, hG _ (pre6 _ (X2.returnOut hx Bd.returns (hb hby d10_9) hr)), hrun, hended, _, _, rfl, ?_, ⟨_, rfl⟩, hW, hsame.mono (by decide) (by decide)⟩
  show QIb4 Z o_ sr_ ks_ x0_ x1_ x2_ x3_ u_coder_o_ u_value_o_ w_COMPACT_STRINGS h0 n0 _ T2.heap _
  rw [e2]
  exact ⟨k_w_2, z_w_2, vs_w_2, nw__2, rfl, N3, f8, sz5, g2_0, g2_1, g2_2, qx2_0⟩
theorem d11_0 : decode jdk_42_method_55_code 0 = .ok (.aload_n 0, 1) := by decide +kernel
theorem d11_1 : decode jdk_42_method_55_code 1 = .ok (.getfield 9, 3) := by decide +kernel
theorem d11_4 : decode jdk_42_method_55_code 4 = .ok (.arraylength, 1) := by decide +kernel
theorem d11_5 : decode jdk_42_method_55_code 5 = .ok (.ifCond .ne 7, 3) := by decide +kernel
theorem d11_12 : decode jdk_42_method_55_code 12 = .ok (.iconst 0, 1) := by decide +kernel
theorem d11_13 : decode jdk_42_method_55_code 13 = .ok (.ireturn, 1) := by decide +kernel
theorem efEmp (m : MethodId) (o_ : Addr) : entryFrame m #[(.ref o_)] 1 = mkF m 0 #[lvR o_] [] := by first | (simp [entryFrame, mkF, argsToLocals, Value.category]; done) | rfl
def QEmp (Z : State) (o_ : Addr) (w_ : Addr) (k_w : ClassId) (z_w : Int32) (vs_w : List Value) (h0 : Heap) (n0 : Nat) (v : Option Value) (h : Heap) (L : List Loc) : Prop := v = some (.int (0 : Int32)) ∧ Fr n0 L ∧ h = h0
set_option maxRecDepth 65536 in
set_option maxHeartbeats 40000000 in
theorem rmEmp (l : Launch) (Z : State) (a0 : Array Value) (hw : ∀ d ∈ tables_1, d.before a0 Z = true) (ws : List Jvm.Cond) (o_ : Addr) (w_ : Addr) (k_w : ClassId) (z_w : Int32) (vs_w : List Value) (h0 : Heap) (n0 : Nat) (O0 : Old Z n0 h0) (hz_ : ¬ (z_w = (0 : Int32))) (P1 : Exa Z h0 o_ "java/lang/String") (P2 : Fld Z h0 o_ "java/lang/String" "value" "[B" (.ref w_)) (P3 : Arv Z h0 w_ k_w .byte z_w vs_w (.int (0 : Int32))) :
    MetFree l (⟨"java/lang/String", "isEmpty", "()Z"⟩ : MethodName) (head1 (Jvm.Cond.code (⟨"java/lang/String", "isEmpty", "()Z"⟩ : MethodName) jdk_42_method_55_code 1 (some .boolean) :: ws) ({ frames := 0, cells := 0, slots := 0, locals := 0 } : Room)) (fun a U => a = #[(.ref o_)] ∧ Z.Warmed39 U.vm ∧ U.heap = h0) (fun _ _ _ _ _ => True) (fun _ U o U' => ∃ v L, o = .returned v ∧ QEmp Z o_ w_ k_w z_w vs_w h0 n0 v U'.heap L ∧ FrameEnd U o U' L ({ frames := 0, cells := 0, slots := 0, locals := 0 } : Room).cells ({ frames := 0, cells := 0, slots := 0, locals := 0 } : Room).slots) := by
  refine MetFree.of_bodySF (plainFor_of_name pn_1) hisR ?_
  intro p e s m args below meth c s₁ Bd hml0 hP hK
  obtain ⟨rfl, hZ, hh⟩ := hP
  have hx := Bd.exec
  have hby := Bd.bytes
  have hml : c.maxLocals = 1 := hml0
  have hown : s.vm.findClass "java/lang/String" = some m.cls := findClass_of_methodNamed Bd.named
  have hnm := (name_of_methodNamed Bd.named Bd.method).1
  have X0 : Stand p l e ({ frames := 0, cells := 0, slots := 0, locals := 0 } : Room) s m #[(.ref o_)] below meth c s₁ [] 0 0 := Stand.of_body Bd
  have e0 : s₁.heap = h0 := by rw [← hh, Bd.state]; rfl
  have N0 := Fr.nil n0
  obtain ⟨G, pre0, hG⟩ : ∃ G : State → Prop, (∀ t, own_S p e below m s₁ 0 #[lvR o_] [] t → G t) ∧ (∀ t, G t → Steps p.tables e below (s₁.setTop (entryFrame m #[(.ref o_)] 1)) t) := ⟨fun t => Steps p.tables e below (s₁.setTop (entryFrame m #[(.ref o_)] 1)) t, fun t k => castTop (efEmp m o_) k, fun _ k => k⟩
  have K0 : Keep h0 h0 [] := Keep.refl _ _
  obtain ⟨T1, X1, e1, st1⟩ := getF X0 hx hZ hown (host := "") (Or.inl (own_w hw 28 rfl)) Via.refl e0 P2 (g := (mkF m 1 #[lvR o_] [(.ref o_)])) rfl rfl (hb hby d11_1)
  obtain ⟨c2, r2, q2, s2, z2, y2, G2⟩ := id P3
  have pre3 : ∀ t, own_S p e below m T1 13 #[lvR o_] [(.int (0 : Int32))] t → G t := by
    intro t kt
    refine pre0 t ?_
    show own_S p e below m s₁ 0 #[lvR o_] [] _
    refine XS.aloadN X0.here hx rfl (hb hby d11_0) rfl rfl ?_
    show own_S p e below m s₁ 1 #[lvR o_] [(.ref o_)] _
    refine st1 _ ?_
    show own_S p e below m T1 4 #[lvR o_] [(.ref w_)] _
    refine X1.arraylength hx (by rw [e1]; exact r2.1) (State.isArrayOf_alike hZ.alike r2.2.1) (g := (mkF m 4 #[lvR o_] [(.ref w_)])) rfl rfl (hb hby d11_4) _ ?_
    rw [len_of s2 z2]
    show own_S p e below m T1 5 #[lvR o_] [(.int z_w)] _
    refine XS.ifYes X1.here hx rfl (pc0 := 5) (pc' := 12) rfl (hb hby d11_5) rfl ((if0 _ _).trans (feq hz_).2) (by decide) (by decide) ?_
    refine XS.iconst X1.here hx rfl (hb hby d11_12) ?_
    exact kt
  obtain ⟨fs, hr, hrun, hended, hW, hsame⟩ := X1.leave (v := some (.int (0 : Int32))) (fun h => by rw [Bd.returns] at h; cases h)
  refine ⟨_, _, hG _ (pre3 _ (retN X1 hx (t := .boolean) Bd.returns (by simp) (hb hby d11_13) hr)), hrun, hended, _, _, rfl, ?_, ⟨_, rfl⟩, hW, hsame.mono (by decide) (by decide)⟩
  show QEmp Z o_ w_ k_w z_w vs_w h0 n0 _ T1.heap _
  rw [e1]
  exact ⟨rfl, N0, rfl⟩
theorem d12_0 : decode prog_19_method_5_code 0 = .ok (.aload_n 0, 1) := by decide +kernel
theorem d12_1 : decode prog_19_method_5_code 1 = .ok (.ldc 38, 2) := by decide +kernel
theorem d12_3 : decode prog_19_method_5_code 3 = .ok (.invokestatic 40, 3) := by decide +kernel
theorem d13_0 : decode jdk_31_method_11_code 0 = .ok (.aload_n 0, 1) := by decide +kernel
theorem d13_1 : decode jdk_31_method_11_code 1 = .ok (.ifnonnull 12, 3) := by decide +kernel
theorem d13_13 : decode jdk_31_method_11_code 13 = .ok (.aload_n 0, 1) := by decide +kernel
theorem d13_14 : decode jdk_31_method_11_code 14 = .ok (.areturn, 1) := by decide +kernel
theorem pn_2 : plainName "java/util/Objects" = true := by first | (simp [plainName, overriddenIn]; done) | decide +kernel
theorem efrequireNonNull53 (m : MethodId) (o0_ : Addr) (o1_ : Addr) : entryFrame m #[(.ref o0_), (.ref o1_)] 2 = mkF m 0 #[lvR o0_, lvR o1_] [] := by first | (simp [entryFrame, mkF, argsToLocals, Value.category]; done) | rfl
def QrequireNonNull53 (Z : State) (o0_ : Addr) (o1_ : Addr) (o2_ : Addr) (ko2_ : ClassId) (lo2_ : List Value) (x0_ : Int32) (h0 : Heap) (n0 : Nat) (v : Option Value) (h : Heap) (L : List Loc) : Prop := v = some (.ref o0_) ∧ Fr n0 L ∧ h = h0
abbrev mn0 : MethodName := ⟨"java/util/Objects", "requireNonNull", "(Ljava/lang/Object;Ljava/lang/String;)Ljava/lang/Object;"⟩
set_option maxRecDepth 65536 in
set_option maxHeartbeats 40000000 in
theorem rmrequireNonNull53 (l : Launch) (Z : State) (a0 : Array Value) (hw : ∀ d ∈ tables_1, d.before a0 Z = true) (ws : List Jvm.Cond) (o0_ : Addr) (o1_ : Addr) (o2_ : Addr) (ko2_ : ClassId) (lo2_ : List Value) (x0_ : Int32) (h0 : Heap) (n0 : Nat) (O0 : Old Z n0 h0) (P0 : Exa Z h0 o0_ "java/lang/String") (P1 : Fld Z h0 o0_ "java/lang/String" "value" "[B" (.ref o2_)) (P2 : Arv Z h0 o2_ ko2_ .byte x0_ lo2_ (.int (0 : Int32))) :
    MetFree l mn0 (head1 (Jvm.Cond.code mn0 jdk_31_method_11_code 2 (some (.object "java/lang/Object")) :: ws) ({ frames := 0, cells := 0, slots := 0, locals := 0 } : Room)) (fun a U => a = #[(.ref o0_), (.ref o1_)] ∧ Z.Warmed39 U.vm ∧ U.heap = h0) (fun _ _ _ _ _ => True) (fun _ U o U' => ∃ v L, o = .returned v ∧ QrequireNonNull53 Z o0_ o1_ o2_ ko2_ lo2_ x0_ h0 n0 v U'.heap L ∧ FrameEnd U o U' L ({ frames := 0, cells := 0, slots := 0, locals := 0 } : Room).cells ({ frames := 0, cells := 0, slots := 0, locals := 0 } : Room).slots) := by
  refine MetFree.of_bodySF (plainFor_of_name pn_2) hisR ?_
  intro p e s m args below meth c s₁ Bd hml0 hP hK
  obtain ⟨rfl, hZ, hh⟩ := hP
  have hx := Bd.exec
  have hby := Bd.bytes
  have hml : c.maxLocals = 2 := hml0
  have hown : s.vm.findClass "java/util/Objects" = some m.cls := findClass_of_methodNamed Bd.named
  have hnm := (name_of_methodNamed Bd.named Bd.method).1
  have X0 : Stand p l e ({ frames := 0, cells := 0, slots := 0, locals := 0 } : Room) s m #[(.ref o0_), (.ref o1_)] below meth c s₁ [] 0 0 := Stand.of_body Bd
  have e0 : s₁.heap = h0 := by rw [← hh, Bd.state]; rfl
  have N0 := Fr.nil n0
  obtain ⟨G, pre0, hG⟩ : ∃ G : State → Prop, (∀ t, own_S p e below m s₁ 0 #[lvR o0_, lvR o1_] [] t → G t) ∧ (∀ t, G t → Steps p.tables e below (s₁.setTop (entryFrame m #[(.ref o0_), (.ref o1_)] 2)) t) := ⟨fun t => Steps p.tables e below (s₁.setTop (entryFrame m #[(.ref o0_), (.ref o1_)] 2)) t, fun t k => castTop (efrequireNonNull53 m o0_ o1_) k, fun _ k => k⟩
  have K0 : Keep h0 h0 [] := Keep.refl _ _
  have pre1 : ∀ t, own_S p e below m s₁ 14 #[lvR o0_, lvR o1_] [(.ref o0_)] t → G t := by
    intro t kt
    refine pre0 t ?_
    show own_S p e below m s₁ 0 #[lvR o0_, lvR o1_] [] _
    refine XS.aloadN X0.here hx rfl (hb hby d13_0) rfl rfl ?_
    show own_S p e below m s₁ 1 #[lvR o0_, lvR o1_] [(.ref o0_)] _
    refine XS.ifnonnullYes X0.here hx rfl (pc0 := 1) (pc' := 13) rfl (hb hby d13_1) rfl (by decide) (by decide) ?_
    refine XS.aloadN X0.here hx rfl (hb hby d13_13) rfl rfl ?_
    exact kt
  obtain ⟨fs, hr, hrun, hended, hW, hsame⟩ := X0.leave (v := some (.ref o0_)) (fun h => by rw [Bd.returns] at h; cases h)
  refine ⟨_, _, hG _ (pre1 _ (retOut X0 hx Bd.returns rfl (Or.inr (Or.inr (Or.inr (Or.inr ⟨rfl, rfl, rfl⟩)))) (hb hby d13_14) hr)), hrun, hended, _, _, rfl, ?_, ⟨_, rfl⟩, hW, hsame.mono (by decide) (by decide)⟩
  show QrequireNonNull53 Z o0_ o1_ o2_ ko2_ lo2_ x0_ h0 n0 _ s₁.heap _
  rw [e0]
  exact ⟨rfl, N0, rfl⟩
theorem pd_8 : parseMethodDescriptor "(Ljava/lang/Object;Ljava/lang/String;)Ljava/lang/Object;" = some ⟨[(.object "java/lang/Object"), (.object "java/lang/String")], some (.object "java/lang/Object")⟩ := by decide +kernel
theorem d12_6 : decode prog_19_method_5_code 6 = .ok (.pop, 1) := by decide +kernel
theorem d12_7 : decode prog_19_method_5_code 7 = .ok (.aload_n 0, 1) := by decide +kernel
theorem d12_8 : decode prog_19_method_5_code 8 = .ok (.invokevirtual 24, 3) := by decide +kernel
theorem pd_9 : parseMethodDescriptor "()Z" = some ⟨[], some .boolean⟩ := by decide +kernel
theorem d12_11 : decode prog_19_method_5_code 11 = .ok (.ifCond .eq 13, 3) := by decide +kernel
theorem d12_24 : decode prog_19_method_5_code 24 = .ok (.aload_n 0, 1) := by decide +kernel
theorem d12_25 : decode prog_19_method_5_code 25 = .ok (.areturn, 1) := by decide +kernel
theorem pn_3 : plainName "com/example/latchkey/latchkey/LockNames" = true := by first | (simp [plainName, overriddenIn]; done) | decide +kernel
theorem efReq (m : MethodId) (o_ : Addr) : entryFrame m #[(.ref o_)] 1 = mkF m 0 #[lvR o_] [] := by first | (simp [entryFrame, mkF, argsToLocals, Value.category]; done) | rfl
def QReq (Z : State) (o_ : Addr) (w_ : Addr) (k_w : ClassId) (z_w : Int32) (vs_w : List Value) (h0 : Heap) (n0 : Nat) (v : Option Value) (h : Heap) (L : List Loc) : Prop := v = some (.ref o_) ∧ Fr n0 L ∧ Keep h0 h []
abbrev mn1 : MethodName := ⟨"com/example/latchkey/latchkey/LockNames", "requireKeyPrefix", "(Ljava/lang/String;)Ljava/lang/String;"⟩
set_option maxRecDepth 65536 in
set_option maxHeartbeats 40000000 in
theorem rmReq (l : Launch) (Z : State) (a0 : Array Value) (hw : ∀ d ∈ tables_1, d.before a0 Z = true) (ws : List Jvm.Cond) (o_ : Addr) (w_ : Addr) (k_w : ClassId) (z_w : Int32) (vs_w : List Value) (h0 : Heap) (n0 : Nat) (O0 : Old Z n0 h0) (hz_ : ¬ (z_w = (0 : Int32))) (P1 : Exa Z h0 o_ "java/lang/String") (P2 : Fld Z h0 o_ "java/lang/String" "value" "[B" (.ref w_)) (P3 : Arv Z h0 w_ k_w .byte z_w vs_w (.int (0 : Int32))) :
    MetFree l mn1 (head1 (Jvm.Cond.code mn1 prog_19_method_5_code 1 (some (.object "java/lang/String")) :: ws) ({ frames := 1, cells := 2, slots := 40, locals := 13 } : Room)) (fun a U => a = #[(.ref o_)] ∧ Z.Warmed39 U.vm ∧ U.heap = h0) (fun _ _ _ _ _ => True) (fun _ U o U' => ∃ v L, o = .returned v ∧ QReq Z o_ w_ k_w z_w vs_w h0 n0 v U'.heap L ∧ ReturnedEndW U o U' L ({ frames := 1, cells := 2, slots := 40, locals := 13 } : Room).cells ({ frames := 1, cells := 2, slots := 40, locals := 13 } : Room).slots) := by
  refine MetFree.of_bodySF (plainFor_of_name pn_3) hisR ?_
  intro p e s m args below meth c s₁ Bd hml0 hP hK
  obtain ⟨rfl, hZ, hh⟩ := hP
  have hx := Bd.exec
  have hby := Bd.bytes
  have hml : c.maxLocals = 1 := hml0
  have hown : s.vm.findClass "com/example/latchkey/latchkey/LockNames" = some m.cls := findClass_of_methodNamed Bd.named
  have hnm := (name_of_methodNamed Bd.named Bd.method).1
  have X0 : Stand p l e ({ frames := 1, cells := 2, slots := 40, locals := 13 } : Room) s m #[(.ref o_)] below meth c s₁ [] 0 0 := Stand.of_body Bd
  have e0 : s₁.heap = h0 := by rw [← hh, Bd.state]; rfl
  have N0 := Fr.nil n0
  obtain ⟨G, pre0, hG⟩ : ∃ G : State → Prop, (∀ t, own_S p e below m s₁ 0 #[lvR o_] [] t → G t) ∧ (∀ t, G t → Steps p.tables e below (s₁.setTop (entryFrame m #[(.ref o_)] 1)) t) := ⟨fun t => Steps p.tables e below (s₁.setTop (entryFrame m #[(.ref o_)] 1)) t, fun t k => castTop (efReq m o_) k, fun _ k => k⟩
  have K0 : Keep h0 h0 [] := Keep.refl _ _
  have wS1 : ∀ d ∈ Bundle.stringAtoms, d.before a0 Z = true := by
    intro d hd
    simp only [Bundle.stringAtoms, List.mem_cons, List.not_mem_nil, or_false] at hd
    rcases hd with rfl | rfl | rfl | rfl | rfl | rfl | rfl
    · exact (own_w hw 2 rfl)
    · exact (own_w hw 1 rfl)
    · exact (own_w hw 19 rfl)
    · exact (own_w hw 29 rfl)
    · exact (own_w hw 27 rfl)
    · exact (own_w hw 35 rfl)
    · exact (own_w hw 36 rfl)
  obtain ⟨sa1, T1, h1, sk1, X1, e1, E1, hS1, hk1, hZ, hown, st1⟩ := ldcS (s := s) (vm0 := s.vm) X0 hx hZ hown (own_w hw 34 rfl) wS1 e0 ((State.WarmedH.refl s).since 0) (Nat.zero_le _) (g := (mkF m 1 #[lvR o_] [(.ref o_)])) rfl (hb hby d12_1) (n := 36) (by decide) (by decide) (by decide) (by decide)
  have f3 : Exa Z h1 o_ "java/lang/String" := P1.ext E1
  have f4 : Fld Z h1 o_ "java/lang/String" "value" "[B" (.ref w_) := P2.ext E1
  have f5 : Arv Z h1 w_ k_w .byte z_w vs_w (.int (0 : Int32)) := P3.ext E1
  have f6 : Old Z n0 h1 := O0.ext E1
  obtain ⟨_, _, ⟨T2, L2, k2, n2⟩, -, X2, ⟨Lc2, hQ2, l2, y2, z2⟩, st2⟩ := Jvm.LawKit.callS X1 hx (y := mn0) hown (mvT hZ (own_w hw 37 rfl)) (mvT hZ (own_w hw 38 rfl)) (mvT hZ (own_w hw 39 rfl)) (mvT hZ (own_w hw 40 rfl)) (by decide) (backOf (W := 0) (rmrequireNonNull53 l Z a0 hw [] o_ sa1 w_ k_w vs_w z_w h1 n0 f6 f3 f4 f5) hZ (own_w hw 40 rfl) (own_w hw 39 rfl) (by decide) (by decide)) (g := (mkF m 3 #[lvR o_] [(.ref sa1), (.ref o_)])) rfl (by rw [hml]; rfl) (argsL := [(.ref o_), (.ref sa1)]) (rest := []) (lenOf pd_8 rfl) rfl (by show 2 * 0 + _ ≤ _; exact Nat.le_of_eq rfl) (hb hby d12_3) (fun _ _ => ⟨rfl, e1, (by decide : 2 + 0 ≤ _), (by decide : 40 + 0 ≤ _)⟩)
  dsimp only [Pt.U, Pt.locs, Pt.cells, Pt.slots] at X2 l2 y2 z2 st2 hQ2
  subst l2 y2 z2
  obtain ⟨h2, e2⟩ : ∃ z, T2.heap = z := ⟨_, rfl⟩
  rw [e2] at hQ2
  obtain ⟨rfl, N2q, hh2⟩ := hQ2
  have N7 := Fr.app N0 N2q
  have e2' : T2.heap = h1 := e2.trans hh2
  obtain ⟨cq8, kq8, q8a, q8b, q8c⟩ := isOf hZ e2' f3
  obtain ⟨_, _, ⟨T8, L8, k8, n8⟩, -, X8, ⟨Lc8, hQ8, l8, y8, z8⟩, st8⟩ := X2.virtualBack hx (y := (⟨"java/lang/String", "isEmpty", "()Z"⟩ : MethodName)) (z := (⟨"java/lang/String", "isEmpty", "()Z"⟩ : MethodName)) hown (mvT hZ (own_w hw 41 rfl)) (mvT hZ (own_w hw 42 rfl)) (notFace_of_selects (args := #[]) (mvT hZ (own_w hw 44 rfl))) (mvT hZ (own_w hw 44 rfl)) (mvT hZ (own_w hw 43 rfl)) (by decide) (backOf (W := 0) (rmEmp l Z a0 hw [] o_ w_ k_w z_w vs_w h1 n0 f6 hz_ f3 f4 f5) hZ (own_w hw 45 rfl) (own_w hw 2 rfl) (by decide) (by decide)) q8a q8c (g := (mkF m 8 #[lvR o_] [(.ref o_)])) rfl (by rw [hml]; rfl) (Steps.refl _) (argsL := []) (rest := []) (lenOf pd_9 rfl) rfl (by show 2 * 0 + _ ≤ _; exact Nat.le_of_eq rfl) (hb hby d12_8) (fun _ _ => ⟨rfl, e2', (by decide : 2 + 0 ≤ _), (by decide : 40 + 0 ≤ _)⟩)
  dsimp only [Pt.U, Pt.locs, Pt.cells, Pt.slots] at X8 l8 y8 z8 st8 hQ8
  subst l8 y8 z8
  obtain ⟨h8, e8⟩ : ∃ z, T8.heap = z := ⟨_, rfl⟩
  rw [e8] at hQ8
  obtain ⟨rfl, N8q, hh8⟩ := hQ8
  have N9 := Fr.app N7 N8q
  have e8' : T8.heap = h1 := e8.trans hh8
  have pre10 : ∀ t, own_S p e below m T8 25 #[lvR o_] [(.ref o_)] t → G t := by
    intro t kt
    refine pre0 t ?_
    show own_S p e below m s₁ 0 #[lvR o_] [] _
    refine XS.aloadN X0.here hx rfl (hb hby d12_0) rfl rfl ?_
    show own_S p e below m s₁ 1 #[lvR o_] [(.ref o_)] _
    refine st1 _ ?_
    show own_S p e below m T1 3 #[lvR o_] [(.ref sa1), (.ref o_)] _
    refine st2 _ ?_
    refine XS.pop X2.here hx rfl (hb hby d12_6) rfl rfl ?_
    refine XS.aloadN X2.here hx rfl (hb hby d12_7) rfl rfl ?_
    show own_S p e below m T2 8 #[lvR o_] [(.ref o_)] _
    refine st8.trans ?_
    show own_S p e below m T8 11 #[lvR o_] [(.int (0 : Int32))] _
    refine XS.ifYes X8.here hx rfl (pc0 := 11) (pc' := 24) rfl (hb hby d12_11) rfl ((if0 _ _).trans (teq (by decide : (0 : Int32) = (0 : Int32))).1) (by decide) (by decide) ?_
    refine XS.aloadN X8.here hx rfl (hb hby d12_24) rfl rfl ?_
    exact kt
  have f12 : Keep h0 h1 [] := K0.ext E1
  obtain ⟨fs, hr, hrun, hended, hEnd⟩ := X8.leaveW hS1 (by rw [e8']; exact hk1) (v := some (.ref o_)) (fun h => by rw [Bd.returns] at h; cases h)
  refine ⟨_, _, hG _ (pre10 _ (retOut X8 hx Bd.returns rfl (Or.inr (Or.inr (Or.inr (Or.inr ⟨rfl, rfl, rfl⟩)))) (hb hby d12_25) hr)), hrun, hended, _, _, rfl, ?_, ⟨hEnd.1, hEnd.2.1, hEnd.2.2.1, hEnd.2.2.2.mono (by decide) (by decide)⟩⟩
  show QReq Z o_ w_ k_w z_w vs_w h0 n0 _ T8.heap _
  rw [e8']
  exact ⟨rfl, N9, f12⟩
theorem pd_10 : parseMethodDescriptor "([C)V" = some ⟨[(.array .char)], none⟩ := by decide +kernel
theorem pd_11 : parseMethodDescriptor "(Ljava/lang/String;)Ljava/lang/String;" = some ⟨[(.object "java/lang/String")], some (.object "java/lang/String")⟩ := by decide +kernel
theorem pn_4 : plainName "com/example/latchkey/latchkey/LockNamesRequireKeyPrefixPinLaw" = true := by first | (simp [plainName, overriddenIn]; done) | decide +kernel
theorem efLaw (m : MethodId) (p0_ : Int32) (p1_ : Int32) (p2_ : Int32) : entryFrame m #[(.int p0_), (.int p1_), (.int p2_)] maxLocals = mkF m 0 #[lvI p0_, lvI p1_, lvI p2_, .unset, .unset, .unset, .unset, .unset, .unset, .unset, .unset, .unset, .unset, .unset] [] := by first | (simp [entryFrame, mkF, argsToLocals, Value.category, maxLocals]; done) | rfl
def QLaw (Z : State) (p0_ : Int32) (p1_ : Int32) (p2_ : Int32) (w_COMPACT_STRINGS : Int32) (h0 : Heap) (n0 : Nat) (v : Option Value) (h : Heap) (L : List Loc) : Prop := v = some (.int (1 : Int32)) ∧ Fr n0 L
set_option maxRecDepth 65536 in
set_option maxHeartbeats 40000000 in
theorem rmLaw (l : Launch) (Z : State) (a0 : Array Value) (hw : ∀ d ∈ tables_1, d.before a0 Z = true) (ws : List Jvm.Cond) (p0_ : Int32) (p1_ : Int32) (p2_ : Int32) (w_COMPACT_STRINGS : Int32) (h0 : Heap) (n0 : Nat) (O0 : Old Z n0 h0) (hz_0 : ¬ (w_COMPACT_STRINGS = (0 : Int32))) (P1 : Sta Z Z.heap "java/lang/String" "COMPACT_STRINGS" "Z" (.int w_COMPACT_STRINGS)) (P2 : Sta Z Z.heap "java/lang/StringUTF16" "$assertionsDisabled" "Z" (.int (1 : Int32))) (P3 : Sta Z Z.heap "java/lang/StringUTF16" "HI_BYTE_SHIFT" "I" (.int (0 : Int32))) (P4 : Sta Z Z.heap "java/lang/StringUTF16" "LO_BYTE_SHIFT" "I" (.int (8 : Int32))) :
    MetFree l x (head1 (Jvm.Cond.code x code maxLocals ret :: ws) room_1) (fun a U => a = #[(.int p0_), (.int p1_), (.int p2_)] ∧ Z.Warmed39 U.vm ∧ U.heap = h0) (fun _ _ _ _ _ => True) (fun _ U o U' => ∃ v L, o = .returned v ∧ QLaw Z p0_ p1_ p2_ w_COMPACT_STRINGS h0 n0 v U'.heap L ∧ ReturnedEndW U o U' L room_1.cells room_1.slots) := by
  refine MetFree.of_bodySF (plainFor_of_name pn_4) hisR ?_
  intro p e s m args below meth c s₁ Bd hml0 hP hK
  obtain ⟨rfl, hZ, hh⟩ := hP
  have hx := Bd.exec
  have hby := Bd.bytes
  have hml : c.maxLocals = 14 := hml0
  have hown : s.vm.findClass "com/example/latchkey/latchkey/LockNamesRequireKeyPrefixPinLaw" = some m.cls := findClass_of_methodNamed Bd.named
  have hnm := (name_of_methodNamed Bd.named Bd.method).1
  have X0 : Stand p l e room_1 s m #[(.int p0_), (.int p1_), (.int p2_)] below meth c s₁ [] 0 0 := Stand.of_body Bd
  have e0 : s₁.heap = h0 := by rw [← hh, Bd.state]; rfl
  have N0 := Fr.nil n0
  obtain ⟨G, pre0, hG⟩ : ∃ G : State → Prop, (∀ t, own_S p e below m s₁ 0 #[lvI p0_, lvI p1_, lvI p2_, .unset, .unset, .unset, .unset, .unset, .unset, .unset, .unset, .unset, .unset, .unset] [] t → G t) ∧ (∀ t, G t → Steps p.tables e below (s₁.setTop (entryFrame m #[(.int p0_), (.int p1_), (.int p2_)] maxLocals)) t) := ⟨fun t => Steps p.tables e below (s₁.setTop (entryFrame m #[(.int p0_), (.int p1_), (.int p2_)] maxLocals)) t, fun t k => castTop (efLaw m p0_ p1_ p2_) k, fun _ k => k⟩
  have K0 : Keep h0 h0 [] := Keep.refl _ _
  have pre1 : ∀ t, own_S p e below m s₁ 21 #[lvI p0_, lvI p1_, lvI p2_, lvI (p0_.toUInt32.toUInt16.toUInt32.toInt32), lvI (((p0_.toUInt32 >>> ((16 : Int32) &&& 31).toUInt32).toInt32).toUInt32.toUInt16.toUInt32.toInt32), lvI (p1_.toUInt32.toUInt16.toUInt32.toInt32), lvI (((p1_.toUInt32 >>> ((16 : Int32) &&& 31).toUInt32).toInt32).toUInt32.toUInt16.toUInt32.toInt32), .unset, .unset, .unset, .unset, .unset, .unset, .unset] [] t → G t := by
    intro t kt
    refine pre0 t ?_
    show own_S p e below m s₁ 0 #[lvI p0_, lvI p1_, lvI p2_, .unset, .unset, .unset, .unset, .unset, .unset, .unset, .unset, .unset, .unset, .unset] [] _
    refine XS.iloadN X0.here hx rfl (hb hby at_0) rfl ?_
    show own_S p e below m s₁ 1 #[lvI p0_, lvI p1_, lvI p2_, .unset, .unset, .unset, .unset, .unset, .unset, .unset, .unset, .unset, .unset, .unset] [(.int p0_)] _
    refine XS.i2c X0.here hx rfl (hb hby at_1) rfl ?_
    refine XS.istoreN X0.here hx rfl (hb hby at_2) rfl (l' := #[lvI p0_, lvI p1_, lvI p2_, lvI (p0_.toUInt32.toUInt16.toUInt32.toInt32), .unset, .unset, .unset, .unset, .unset, .unset, .unset, .unset, .unset, .unset]) rfl ?_
    refine XS.iloadN X0.here hx rfl (hb hby at_3) rfl ?_
    refine XS.bipush X0.here hx rfl (hb hby at_4) ?_
    show own_S p e below m s₁ 6 #[lvI p0_, lvI p1_, lvI p2_, lvI (p0_.toUInt32.toUInt16.toUInt32.toInt32), .unset, .unset, .unset, .unset, .unset, .unset, .unset, .unset, .unset, .unset] [(.int (16 : Int32)), (.int p0_)] _
    refine XS.iushr X0.here hx rfl (hb hby at_6) rfl ?_
    show own_S p e below m s₁ 7 #[lvI p0_, lvI p1_, lvI p2_, lvI (p0_.toUInt32.toUInt16.toUInt32.toInt32), .unset, .unset, .unset, .unset, .unset, .unset, .unset, .unset, .unset, .unset] [(.int ((p0_.toUInt32 >>> ((16 : Int32) &&& 31).toUInt32).toInt32))] _
    refine XS.i2c X0.here hx rfl (hb hby at_7) rfl ?_
    refine XS.istore X0.here hx rfl (hb hby at_8) rfl (l' := #[lvI p0_, lvI p1_, lvI p2_, lvI (p0_.toUInt32.toUInt16.toUInt32.toInt32), lvI (((p0_.toUInt32 >>> ((16 : Int32) &&& 31).toUInt32).toInt32).toUInt32.toUInt16.toUInt32.toInt32), .unset, .unset, .unset, .unset, .unset, .unset, .unset, .unset, .unset]) rfl ?_
    refine XS.iloadN X0.here hx rfl (hb hby at_10) rfl ?_
    show own_S p e below m s₁ 11 #[lvI p0_, lvI p1_, lvI p2_, lvI (p0_.toUInt32.toUInt16.toUInt32.toInt32), lvI (((p0_.toUInt32 >>> ((16 : Int32) &&& 31).toUInt32).toInt32).toUInt32.toUInt16.toUInt32.toInt32), .unset, .unset, .unset, .unset, .unset, .unset, .unset, .unset, .unset] [(.int p1_)] _
    refine XS.i2c X0.here hx rfl (hb hby at_11) rfl ?_
    refine XS.istore X0.here hx rfl (hb hby at_12) rfl (l' := #[lvI p0_, lvI p1_, lvI p2_, lvI (p0_.toUInt32.toUInt16.toUInt32.toInt32), lvI (((p0_.toUInt32 >>> ((16 : Int32) &&& 31).toUInt32).toInt32).toUInt32.toUInt16.toUInt32.toInt32), lvI (p1_.toUInt32.toUInt16.toUInt32.toInt32), .unset, .unset, .unset, .unset, .unset, .unset, .unset, .unset]) rfl ?_
    refine XS.iloadN X0.here hx rfl (hb hby at_14) rfl ?_
    refine XS.bipush X0.here hx rfl (hb hby at_15) ?_
    show own_S p e below m s₁ 17 #[lvI p0_, lvI p1_, lvI p2_, lvI (p0_.toUInt32.toUInt16.toUInt32.toInt32), lvI (((p0_.toUInt32 >>> ((16 : Int32) &&& 31).toUInt32).toInt32).toUInt32.toUInt16.toUInt32.toInt32), lvI (p1_.toUInt32.toUInt16.toUInt32.toInt32), .unset, .unset, .unset, .unset, .unset, .unset, .unset, .unset] [(.int (16 : Int32)), (.int p1_)] _
    refine XS.iushr X0.here hx rfl (hb hby at_17) rfl ?_
    show own_S p e below m s₁ 18 #[lvI p0_, lvI p1_, lvI p2_, lvI (p0_.toUInt32.toUInt16.toUInt32.toInt32), lvI (((p0_.toUInt32 >>> ((16 : Int32) &&& 31).toUInt32).toInt32).toUInt32.toUInt16.toUInt32.toInt32), lvI (p1_.toUInt32.toUInt16.toUInt32.toInt32), .unset, .unset, .unset, .unset, .unset, .unset, .unset, .unset] [(.int ((p1_.toUInt32 >>> ((16 : Int32) &&& 31).toUInt32).toInt32))] _
    refine XS.i2c X0.here hx rfl (hb hby at_18) rfl ?_
    refine XS.istore X0.here hx rfl (hb hby at_19) rfl (l' := #[lvI p0_, lvI p1_, lvI p2_, lvI (p0_.toUInt32.toUInt16.toUInt32.toInt32), lvI (((p0_.toUInt32 >>> ((16 : Int32) &&& 31).toUInt32).toInt32).toUInt32.toUInt16.toUInt32.toInt32), lvI (p1_.toUInt32.toUInt16.toUInt32.toInt32), lvI (((p1_.toUInt32 >>> ((16 : Int32) &&& 31).toUInt32).toInt32).toUInt32.toUInt16.toUInt32.toInt32), .unset, .unset, .unset, .unset, .unset, .unset, .unset]) rfl ?_
    exact kt
  obtain ⟨ch0, hch0⟩ : ∃ z, z = (p0_.toUInt32.toUInt16.toUInt32.toInt32) := ⟨_, rfl⟩
  have pre2 : ∀ t, own_S p e below m s₁ 21 #[lvI p0_, lvI p1_, lvI p2_, lvI ch0, lvI (((p0_.toUInt32 >>> ((16 : Int32) &&& 31).toUInt32).toInt32).toUInt32.toUInt16.toUInt32.toInt32), lvI (p1_.toUInt32.toUInt16.toUInt32.toInt32), lvI (((p1_.toUInt32 >>> ((16 : Int32) &&& 31).toUInt32).toInt32).toUInt32.toUInt16.toUInt32.toInt32), .unset, .unset, .unset, .unset, .unset, .unset, .unset] [] t → G t := fun t kt => pre1 t (by rw [← hch0]; exact kt)
  have hn3 : own_chr ch0 := own_chr_of hch0
  obtain ⟨ch1, hch1⟩ : ∃ z, z = (((p0_.toUInt32 >>> ((16 : Int32) &&& 31).toUInt32).toInt32).toUInt32.toUInt16.toUInt32.toInt32) := ⟨_, rfl⟩
  have pre4 : ∀ t, own_S p e below m s₁ 21 #[lvI p0_, lvI p1_, lvI p2_, lvI ch0, lvI ch1, lvI (p1_.toUInt32.toUInt16.toUInt32.toInt32), lvI (((p1_.toUInt32 >>> ((16 : Int32) &&& 31).toUInt32).toInt32).toUInt32.toUInt16.toUInt32.toInt32), .unset, .unset, .unset, .unset, .unset, .unset, .unset] [] t → G t := fun t kt => pre2 t (by rw [← hch1]; exact kt)
  have hn5 : own_chr ch1 := own_chr_of hch1
  obtain ⟨ch2, hch2⟩ : ∃ z, z = (p1_.toUInt32.toUInt16.toUInt32.toInt32) := ⟨_, rfl⟩
  have pre6 : ∀ t, own_S p e below m s₁ 21 #[lvI p0_, lvI p1_, lvI p2_, lvI ch0, lvI ch1, lvI ch2, lvI (((p1_.toUInt32 >>> ((16 : Int32) &&& 31).toUInt32).toInt32).toUInt32.toUInt16.toUInt32.toInt32), .unset, .unset, .unset, .unset, .unset, .unset, .unset] [] t → G t := fun t kt => pre4 t (by rw [← hch2]; exact kt)
  have hn7 : own_chr ch2 := own_chr_of hch2
  obtain ⟨ch3, hch3⟩ : ∃ z, z = (((p1_.toUInt32 >>> ((16 : Int32) &&& 31).toUInt32).toInt32).toUInt32.toUInt16.toUInt32.toInt32) := ⟨_, rfl⟩
  have pre8 : ∀ t, own_S p e below m s₁ 21 #[lvI p0_, lvI p1_, lvI p2_, lvI ch0, lvI ch1, lvI ch2, lvI ch3, .unset, .unset, .unset, .unset, .unset, .unset, .unset] [] t → G t := fun t kt => pre6 t (by rw [← hch3]; exact kt)
  have hn9 : own_chr ch3 := own_chr_of hch3
  obtain ⟨T10, h10, X10, e10, E10, A10, D10, -, st10⟩ := newO X0 hx hZ hown (own_w hw 0 rfl) (own_w hw 1 rfl) (own_w hw 2 rfl) e0 (g := (mkF m 21 #[lvI p0_, lvI p1_, lvI p2_, lvI ch0, lvI ch1, lvI ch2, lvI ch3, .unset, .unset, .unset, .unset, .unset, .unset, .unset] [])) rfl (hb hby at_21) (by decide) (by decide)
  obtain ⟨b10, g10⟩ : ∃ z, z = h0.size := ⟨_, rfl⟩
  rw [← g10] at A10 D10 st10
  have ge11 : n0 ≤ b10 := Nat.le_trans (Nat.le_trans (Nat.le_of_eq O0.1.symm) O0.2.1) (Nat.le_of_eq g10.symm)
  have sz12 : h0.size ≤ b10 := Nat.le_trans K0.1 (Nat.le_of_eq g10.symm)
  have f13 : Fld Z h10 b10 "java/lang/String" "coder" "B" (.int (0 : Int32)) := D10 (Or.inr (own_w hw 27 rfl)) (ty := .byte) (by decide)
  have f14 : Fld Z h10 b10 "java/lang/String" "value" "[B" .null := D10 (Or.inr (own_w hw 29 rfl)) (ty := (.array .byte)) (by decide)
  obtain ⟨T15, h15, k15, X15, e15, E15, A15, Z15, st15⟩ := newPE X10 hx hZ (own_w hw 3 rfl) e10 (g := (mkF m 26 #[lvI p0_, lvI p1_, lvI p2_, lvI ch0, lvI ch1, lvI ch2, lvI ch3, .unset, .unset, .unset, .unset, .unset, .unset, .unset] [(.int (1 : Int32)), (.ref b10), (.ref b10)])) rfl (hb hby at_26) rfl (by decide) (cap := 1) (by decide) (by decide) (by decide) (by decide) (ad := "[C") (by decide)
  obtain ⟨b15, g15⟩ : ∃ z, z = h10.size := ⟨_, rfl⟩
  rw [← g15] at A15 Z15 st15
  have f16 : Old Z n0 h10 := O0.ext E10
  have ge17 : n0 ≤ b15 := Nat.le_trans (Nat.le_trans (Nat.le_of_eq f16.1.symm) f16.2.1) (Nat.le_of_eq g15.symm)
  have f18 : Keep h0 h10 [] := K0.ext E10
  have sz19 : h0.size ≤ b15 := Nat.le_trans f18.1 (Nat.le_of_eq g15.symm)
  have f20 : Arv Z h15 b15 k15 .char (1 : Int32) [(.int (0 : Int32))] (.int (0 : Int32)) := (Arv.new A15 (by decide)).pad (pad_rep [] (.int (0 : Int32)) 1)
  obtain ⟨c21, r21, q21, s21, z21, y21, G21⟩ := id f20
  have hin21 : ¬ ((0 : Int32) < 0 ∨ c21.slots.size ≤ ((0 : Int32)).toNatClampNeg) := inb_of s21 ⟨by decide, by decide⟩
  obtain ⟨T21, h21, X21, e21, W21, st21⟩ := stC X15 hx hZ e15 r21 (j := (0 : Int32)) hin21 (g := (mkF m 31 #[lvI p0_, lvI p1_, lvI p2_, lvI ch0, lvI ch1, lvI ch2, lvI ch3, .unset, .unset, .unset, .unset, .unset, .unset, .unset] [(.int ch0), (.int (0 : Int32)), (.ref b15), (.ref b15), (.ref b10), (.ref b10)])) rfl rfl (hb hby at_31)
  have N22 := Fr.snoc X21 N0 ge17
  have f23 : Arv Z h21 b15 k15 .char (1 : Int32) [(.int (ch0.toUInt32.toUInt16.toUInt32.toInt32))] (.int (0 : Int32)) := Arv.set r21 q21 s21 z21 y21 G21 (fits_nar_char _) W21 0 rfl (Nat.le_of_ble_eq_true rfl)
  have f24 : Arv Z h21 b15 k15 .char (1 : Int32) [(.int ch0)] (.int (0 : Int32)) := by have q := f23; rw [own_chr_id hn3] at q; exact q
  have f26 : Exa Z h15 b10 "java/lang/String" := A10.ext E15
  have f27 : Exa Z h21 b10 "java/lang/String" := f26.wr W21
  have f28 : Fld Z h15 b10 "java/lang/String" "coder" "B" (.int (0 : Int32)) := f13.ext E15
  have ne30 : b10 ≠ b15 := Nat.ne_of_lt (Nat.lt_of_lt_of_le A10.lt (Nat.le_of_eq g15.symm))
  have f29 : Fld Z h21 b10 "java/lang/String" "coder" "B" (.int (0 : Int32)) := f28.other W21 (Or.inl ne30)
  have f31 : Fld Z h15 b10 "java/lang/String" "value" "[B" .null := f14.ext E15
  have f32 : Fld Z h21 b10 "java/lang/String" "value" "[B" .null := f31.other W21 (Or.inl ne30)
  have f33 : Old Z n0 h15 := f16.ext E15
  have f34 : Old Z n0 h21 := f33.wr W21 ge17
  obtain ⟨_, _, ⟨T25, L25, k25, n25⟩, -, X25, ⟨Lc25, hQ25, l25, y25, z25⟩, st25⟩ := X21.specialBack hx (y := (⟨"java/lang/String", "<init>", "([C)V"⟩ : MethodName)) rfl hown (mvT hZ (own_w hw 4 rfl)) (mvT hZ (own_w hw 5 rfl)) (mvT hZ (own_w hw 6 rfl)) (by decide) (backOf (W := 1) (rmIb1 l Z a0 hw [] b10 b15 k15 ch0 (0 : Int32) (.null) w_COMPACT_STRINGS h21 n0 f34 hn3 hz_0 f27 f29 f32 f24 P1 P2 P3 P4 ge11) hZ (own_w hw 6 rfl) (own_w hw 2 rfl) (by decide) (by decide)) (g := (mkF m 32 #[lvI p0_, lvI p1_, lvI p2_, lvI ch0, lvI ch1, lvI ch2, lvI ch3, .unset, .unset, .unset, .unset, .unset, .unset, .unset] [(.ref b15), (.ref b10), (.ref b10)])) rfl (by rw [hml]; rfl) (Steps.refl _) (a := b10) (argsL := [(.ref b15)]) (rest := [(.ref b10)]) (lenOf pd_10 rfl) rfl (by show 2 * 0 + _ ≤ _; exact Nat.le_of_eq rfl) (hb hby at_32) (fun _ _ => ⟨rfl, e21, (by decide : 2 + 2 ≤ _), (by decide : 5 + 3 ≤ _)⟩)
  dsimp only [Pt.U, Pt.locs, Pt.cells, Pt.slots] at X25 l25 y25 z25 st25 hQ25
  subst l25 y25 z25
  obtain ⟨h25, e25⟩ : ∃ z, T25.heap = z := ⟨_, rfl⟩
  rw [e25] at hQ25
  obtain ⟨k_w_25, z_w_25, vs_w_25, nw__25, rfl, N25q, K25, sznw__25, g25_0, g25_1, g25_2, qx25_0⟩ := hQ25
  have N35 := Fr.app N22 N25q
  have ge36 : n0 ≤ nw__25 := Nat.le_trans (Nat.le_trans (Nat.le_of_eq f34.1.symm) f34.2.1) sznw__25
  have f37 : Keep h0 h15 [] := f18.ext E15
  have f38 : Keep h0 h21 [] := f37.wr W21 (Or.inr sz19)
  have sz39 : h0.size ≤ nw__25 := Nat.le_trans f38.1 sznw__25
  obtain ⟨T40, h40, X40, e40, E40, A40, D40, -, st40⟩ := newO X25 hx hZ hown (own_w hw 0 rfl) (own_w hw 1 rfl) (own_w hw 2 rfl) e25 (g := (mkF m 37 #[lvI p0_, lvI p1_, lvI p2_, lvI ch0, lvI ch1, lvI ch2, lvI ch3, lvR b10, .unset, .unset, .unset, .unset, .unset, .unset] [])) rfl (hb hby at_37) (by decide) (by decide)
  obtain ⟨b40, g40⟩ : ∃ z, z = h25.size := ⟨_, rfl⟩
  rw [← g40] at A40 D40 st40
  have f41 : Old Z n0 h25 := f34.keep K25 (allS (ge11) all0)
  have ge42 : n0 ≤ b40 := Nat.le_trans (Nat.le_trans (Nat.le_of_eq f41.1.symm) f41.2.1) (Nat.le_of_eq g40.symm)
  have f43 : Keep h0 h25 [] := f38.trans K25 (allS (Or.inr sz12) all0)
  have sz44 : h0.size ≤ b40 := Nat.le_trans f43.1 (Nat.le_of_eq g40.symm)
  have f45 : Fld Z h40 b40 "java/lang/String" "coder" "B" (.int (0 : Int32)) := D40 (Or.inr (own_w hw 27 rfl)) (ty := .byte) (by decide)
  have f46 : Fld Z h40 b40 "java/lang/String" "value" "[B" .null := D40 (Or.inr (own_w hw 29 rfl)) (ty := (.array .byte)) (by decide)
  obtain ⟨T47, h47, k47, X47, e47, E47, A47, Z47, st47⟩ := newPE X40 hx hZ (own_w hw 3 rfl) e40 (g := (mkF m 42 #[lvI p0_, lvI p1_, lvI p2_, lvI ch0, lvI ch1, lvI ch2, lvI ch3, lvR b10, .unset, .unset, .unset, .unset, .unset, .unset] [(.int (2 : Int32)), (.ref b40), (.ref b40)])) rfl (hb hby at_42) rfl (by decide) (cap := 2) (by decide) (by decide) (by decide) (by decide) (ad := "[C") (by decide)
  obtain ⟨b47, g47⟩ : ∃ z, z = h40.size := ⟨_, rfl⟩
  rw [← g47] at A47 Z47 st47
  have f48 : Old Z n0 h40 := f41.ext E40
  have ge49 : n0 ≤ b47 := Nat.le_trans (Nat.le_trans (Nat.le_of_eq f48.1.symm) f48.2.1) (Nat.le_of_eq g47.symm)
  have f50 : Keep h0 h40 [] := f43.ext E40
  have sz51 : h0.size ≤ b47 := Nat.le_trans f50.1 (Nat.le_of_eq g47.symm)
  have f52 : Arv Z h47 b47 k47 .char (2 : Int32) [(.int (0 : Int32)), (.int (0 : Int32))] (.int (0 : Int32)) := (Arv.new A47 (by decide)).pad (pad_rep [] (.int (0 : Int32)) 2)
  obtain ⟨c53, r53, q53, s53, z53, y53, G53⟩ := id f52
  have hin53 : ¬ ((0 : Int32) < 0 ∨ c53.slots.size ≤ ((0 : Int32)).toNatClampNeg) := inb_of s53 ⟨by decide, by decide⟩
  obtain ⟨T53, h53, X53, e53, W53, st53⟩ := stC X47 hx hZ e47 r53 (j := (0 : Int32)) hin53 (g := (mkF m 47 #[lvI p0_, lvI p1_, lvI p2_, lvI ch0, lvI ch1, lvI ch2, lvI ch3, lvR b10, .unset, .unset, .unset, .unset, .unset, .unset] [(.int ch0), (.int (0 : Int32)), (.ref b47), (.ref b47), (.ref b40), (.ref b40)])) rfl rfl (hb hby at_47)
  have N54 := Fr.snoc X53 N35 ge49
  have f55 : Arv Z h53 b47 k47 .char (2 : Int32) [(.int (ch0.toUInt32.toUInt16.toUInt32.toInt32)), (.int (0 : Int32))] (.int (0 : Int32)) := Arv.set r53 q53 s53 z53 y53 G53 (fits_nar_char _) W53 0 rfl (Nat.le_of_ble_eq_true rfl)
  have f56 : Arv Z h53 b47 k47 .char (2 : Int32) [(.int ch0), (.int (0 : Int32))] (.int (0 : Int32)) := by have q := f55; rw [own_chr_id hn3] at q; exact q
  obtain ⟨c57, r57, q57, s57, z57, y57, G57⟩ := id f56
  have hin57 : ¬ ((1 : Int32) < 0 ∨ c57.slots.size ≤ ((1 : Int32)).toNatClampNeg) := inb_of s57 ⟨by decide, by decide⟩
  obtain ⟨T57, h57, X57, e57, W57, st57⟩ := stC X53 hx hZ e53 r57 (j := (1 : Int32)) hin57 (g := (mkF m 52 #[lvI p0_, lvI p1_, lvI p2_, lvI ch0, lvI ch1, lvI ch2, lvI ch3, lvR b10, .unset, .unset, .unset, .unset, .unset, .unset] [(.int ch1), (.int (1 : Int32)), (.ref b47), (.ref b47), (.ref b40), (.ref b40)])) rfl rfl (hb hby at_52)
  have N58 := Fr.snoc X57 N54 ge49
  have f59 : Arv Z h57 b47 k47 .char (2 : Int32) [(.int ch0), (.int (ch1.toUInt32.toUInt16.toUInt32.toInt32))] (.int (0 : Int32)) := Arv.set r57 q57 s57 z57 y57 G57 (fits_nar_char _) W57 1 rfl (Nat.le_of_ble_eq_true rfl)
  have f60 : Arv Z h57 b47 k47 .char (2 : Int32) [(.int ch0), (.int ch1)] (.int (0 : Int32)) := by have q := f59; rw [own_chr_id hn5] at q; exact q
  have f62 : Exa Z h47 b40 "java/lang/String" := A40.ext E47
  have f63 : Exa Z h53 b40 "java/lang/String" := f62.wr W53
  have f64 : Exa Z h57 b40 "java/lang/String" := f63.wr W57
  have f65 : Fld Z h47 b40 "java/lang/String" "coder" "B" (.int (0 : Int32)) := f45.ext E47
  have ne67 : b40 ≠ b47 := Nat.ne_of_lt (Nat.lt_of_lt_of_le A40.lt (Nat.le_of_eq g47.symm))
  have f66 : Fld Z h53 b40 "java/lang/String" "coder" "B" (.int (0 : Int32)) := f65.other W53 (Or.inl ne67)
  have f68 : Fld Z h57 b40 "java/lang/String" "coder" "B" (.int (0 : Int32)) := f66.other W57 (Or.inl ne67)
  have f69 : Fld Z h47 b40 "java/lang/String" "value" "[B" .null := f46.ext E47
  have f70 : Fld Z h53 b40 "java/lang/String" "value" "[B" .null := f69.other W53 (Or.inl ne67)
  have f71 : Fld Z h57 b40 "java/lang/String" "value" "[B" .null := f70.other W57 (Or.inl ne67)
  have f72 : Old Z n0 h47 := f48.ext E47
  have f73 : Old Z n0 h53 := f72.wr W53 ge49
  have f74 : Old Z n0 h57 := f73.wr W57 ge49
  obtain ⟨_, _, ⟨T61, L61, k61, n61⟩, -, X61, ⟨Lc61, hQ61, l61, y61, z61⟩, st61⟩ := X57.specialBack hx (y := (⟨"java/lang/String", "<init>", "([C)V"⟩ : MethodName)) rfl hown (mvT hZ (own_w hw 4 rfl)) (mvT hZ (own_w hw 5 rfl)) (mvT hZ (own_w hw 6 rfl)) (by decide) (backOf (W := 1) (rmIb2 l Z a0 hw [] b40 b47 k47 ch0 ch1 (0 : Int32) (.null) w_COMPACT_STRINGS h57 n0 f74 hn3 hn5 hz_0 f64 f68 f71 f60 P1 P2 P3 P4 ge42) hZ (own_w hw 6 rfl) (own_w hw 2 rfl) (by decide) (by decide)) (g := (mkF m 53 #[lvI p0_, lvI p1_, lvI p2_, lvI ch0, lvI ch1, lvI ch2, lvI ch3, lvR b10, .unset, .unset, .unset, .unset, .unset, .unset] [(.ref b47), (.ref b40), (.ref b40)])) rfl (by rw [hml]; rfl) (Steps.refl _) (a := b40) (argsL := [(.ref b47)]) (rest := [(.ref b40)]) (lenOf pd_10 rfl) rfl (by show 2 * 0 + _ ≤ _; exact Nat.le_of_eq rfl) (hb hby at_53) (fun _ _ => ⟨rfl, e57, (by decide : 6 + 2 ≤ _), (by decide : 14 + 6 ≤ _)⟩)
  dsimp only [Pt.U, Pt.locs, Pt.cells, Pt.slots] at X61 l61 y61 z61 st61 hQ61
  subst l61 y61 z61
  obtain ⟨h61, e61⟩ : ∃ z, T61.heap = z := ⟨_, rfl⟩
  rw [e61] at hQ61
  obtain ⟨k_w_61, z_w_61, vs_w_61, nw__61, rfl, N61q, K61, sznw__61, g61_0, g61_1, g61_2, qx61_0⟩ := hQ61
  have N75 := Fr.app N58 N61q
  have ge76 : n0 ≤ nw__61 := Nat.le_trans (Nat.le_trans (Nat.le_of_eq f74.1.symm) f74.2.1) sznw__61
  have f77 : Keep h0 h47 [] := f50.ext E47
  have f78 : Keep h0 h53 [] := f77.wr W53 (Or.inr sz51)
  have f79 : Keep h0 h57 [] := f78.wr W57 (Or.inr sz51)
  have sz80 : h0.size ≤ nw__61 := Nat.le_trans f79.1 sznw__61
  obtain ⟨T81, h81, X81, e81, E81, A81, D81, -, st81⟩ := newO X61 hx hZ hown (own_w hw 0 rfl) (own_w hw 1 rfl) (own_w hw 2 rfl) e61 (g := (mkF m 58 #[lvI p0_, lvI p1_, lvI p2_, lvI ch0, lvI ch1, lvI ch2, lvI ch3, lvR b10, lvR b40, .unset, .unset, .unset, .unset, .unset] [])) rfl (hb hby at_58) (by decide) (by decide)
  obtain ⟨b81, g81⟩ : ∃ z, z = h61.size := ⟨_, rfl⟩
  rw [← g81] at A81 D81 st81
  have f82 : Old Z n0 h61 := f74.keep K61 (allS (ge42) all0)
  have ge83 : n0 ≤ b81 := Nat.le_trans (Nat.le_trans (Nat.le_of_eq f82.1.symm) f82.2.1) (Nat.le_of_eq g81.symm)
  have f84 : Keep h0 h61 [] := f79.trans K61 (allS (Or.inr sz44) all0)
  have sz85 : h0.size ≤ b81 := Nat.le_trans f84.1 (Nat.le_of_eq g81.symm)
  have f86 : Fld Z h81 b81 "java/lang/String" "coder" "B" (.int (0 : Int32)) := D81 (Or.inr (own_w hw 27 rfl)) (ty := .byte) (by decide)
  have f87 : Fld Z h81 b81 "java/lang/String" "value" "[B" .null := D81 (Or.inr (own_w hw 29 rfl)) (ty := (.array .byte)) (by decide)
  obtain ⟨T88, h88, k88, X88, e88, E88, A88, Z88, st88⟩ := newPE X81 hx hZ (own_w hw 3 rfl) e81 (g := (mkF m 63 #[lvI p0_, lvI p1_, lvI p2_, lvI ch0, lvI ch1, lvI ch2, lvI ch3, lvR b10, lvR b40, .unset, .unset, .unset, .unset, .unset] [(.int (3 : Int32)), (.ref b81), (.ref b81)])) rfl (hb hby at_63) rfl (by decide) (cap := 3) (by decide) (by decide) (by decide) (by decide) (ad := "[C") (by decide)
  obtain ⟨b88, g88⟩ : ∃ z, z = h81.size := ⟨_, rfl⟩
  rw [← g88] at A88 Z88 st88
  have f89 : Old Z n0 h81 := f82.ext E81
  have ge90 : n0 ≤ b88 := Nat.le_trans (Nat.le_trans (Nat.le_of_eq f89.1.symm) f89.2.1) (Nat.le_of_eq g88.symm)
  have f91 : Keep h0 h81 [] := f84.ext E81
  have sz92 : h0.size ≤ b88 := Nat.le_trans f91.1 (Nat.le_of_eq g88.symm)
  have f93 : Arv Z h88 b88 k88 .char (3 : Int32) [(.int (0 : Int32)), (.int (0 : Int32)), (.int (0 : Int32))] (.int (0 : Int32)) := (Arv.new A88 (by decide)).pad (pad_rep [] (.int (0 : Int32)) 3)
  obtain ⟨c94, r94, q94, s94, z94, y94, G94⟩ := id f93
  have hin94 : ¬ ((0 : Int32) < 0 ∨ c94.slots.size ≤ ((0 : Int32)).toNatClampNeg) := inb_of s94 ⟨by decide, by decide⟩
  obtain ⟨T94, h94, X94, e94, W94, st94⟩ := stC X88 hx hZ e88 r94 (j := (0 : Int32)) hin94 (g := (mkF m 68 #[lvI p0_, lvI p1_, lvI p2_, lvI ch0, lvI ch1, lvI ch2, lvI ch3, lvR b10, lvR b40, .unset, .unset, .unset, .unset, .unset] [(.int ch0), (.int (0 : Int32)), (.ref b88), (.ref b88), (.ref b81), (.ref b81)])) rfl rfl (hb hby at_68)
  have N95 := Fr.snoc X94 N75 ge90
  have f96 : Arv Z h94 b88 k88 .char (3 : Int32) [(.int (ch0.toUInt32.toUInt16.toUInt32.toInt32)), (.int (0 : Int32)), (.int (0 : Int32))] (.int (0 : Int32)) := Arv.set r94 q94 s94 z94 y94 G94 (fits_nar_char _) W94 0 rfl (Nat.le_of_ble_eq_true rfl)
  have f97 : Arv Z h94 b88 k88 .char (3 : Int32) [(.int ch0), (.int (0 : Int32)), (.int (0 : Int32))] (.int (0 : Int32)) := by have q := f96; rw [own_chr_id hn3] at q; exact q
  obtain ⟨c98, r98, q98, s98, z98, y98, G98⟩ := id f97
  have hin98 : ¬ ((1 : Int32) < 0 ∨ c98.slots.size ≤ ((1 : Int32)).toNatClampNeg) := inb_of s98 ⟨by decide, by decide⟩
  obtain ⟨T98, h98, X98, e98, W98, st98⟩ := stC X94 hx hZ e94 r98 (j := (1 : Int32)) hin98 (g := (mkF m 73 #[lvI p0_, lvI p1_, lvI p2_, lvI ch0, lvI ch1, lvI ch2, lvI ch3, lvR b10, lvR b40, .unset, .unset, .unset, .unset, .unset] [(.int ch1), (.int (1 : Int32)), (.ref b88), (.ref b88), (.ref b81), (.ref b81)])) rfl rfl (hb hby at_73)
  have N99 := Fr.snoc X98 N95 ge90
  have f100 : Arv Z h98 b88 k88 .char (3 : Int32) [(.int ch0), (.int (ch1.toUInt32.toUInt16.toUInt32.toInt32)), (.int (0 : Int32))] (.int (0 : Int32)) := Arv.set r98 q98 s98 z98 y98 G98 (fits_nar_char _) W98 1 rfl (Nat.le_of_ble_eq_true rfl)
  have f101 : Arv Z h98 b88 k88 .char (3 : Int32) [(.int ch0), (.int ch1), (.int (0 : Int32))] (.int (0 : Int32)) := by have q := f100; rw [own_chr_id hn5] at q; exact q
  obtain ⟨c102, r102, q102, s102, z102, y102, G102⟩ := id f101
  have hin102 : ¬ ((2 : Int32) < 0 ∨ c102.slots.size ≤ ((2 : Int32)).toNatClampNeg) := inb_of s102 ⟨by decide, by decide⟩
  obtain ⟨T102, h102, X102, e102, W102, st102⟩ := stC X98 hx hZ e98 r102 (j := (2 : Int32)) hin102 (g := (mkF m 78 #[lvI p0_, lvI p1_, lvI p2_, lvI ch0, lvI ch1, lvI ch2, lvI ch3, lvR b10, lvR b40, .unset, .unset, .unset, .unset, .unset] [(.int ch2), (.int (2 : Int32)), (.ref b88), (.ref b88), (.ref b81), (.ref b81)])) rfl rfl (hb hby at_78)
  have N103 := Fr.snoc X102 N99 ge90
  have f104 : Arv Z h102 b88 k88 .char (3 : Int32) [(.int ch0), (.int ch1), (.int (ch2.toUInt32.toUInt16.toUInt32.toInt32))] (.int (0 : Int32)) := Arv.set r102 q102 s102 z102 y102 G102 (fits_nar_char _) W102 2 rfl (Nat.le_of_ble_eq_true rfl)
  have f105 : Arv Z h102 b88 k88 .char (3 : Int32) [(.int ch0), (.int ch1), (.int ch2)] (.int (0 : Int32)) := by have q := f104; rw [own_chr_id hn7] at q; exact q
  have f107 : Exa Z h88 b81 "java/lang/String" := A81.ext E88
  have f108 : Exa Z h94 b81 "java/lang/String" := f107.wr W94
  have f109 : Exa Z h98 b81 "java/lang/String" := f108.wr W98
  have f110 : Exa Z h102 b81 "java/lang/String" := f109.wr W102
  have f111 : Fld Z h88 b81 "java/lang/String" "coder" "B" (.int (0 : Int32)) := f86.ext E88
  have ne113 : b81 ≠ b88 := Nat.ne_of_lt (Nat.lt_of_lt_of_le A81.lt (Nat.le_of_eq g88.symm))
  have f112 : Fld Z h94 b81 "java/lang/String" "coder" "B" (.int (0 : Int32)) := f111.other W94 (Or.inl ne113)
  have f114 : Fld Z h98 b81 "java/lang/String" "coder" "B" (.int (0 : Int32)) := f112.other W98 (Or.inl ne113)
  have f115 : Fld Z h102 b81 "java/lang/String" "coder" "B" (.int (0 : Int32)) := f114.other W102 (Or.inl ne113)
  have f116 : Fld Z h88 b81 "java/lang/String" "value" "[B" .null := f87.ext E88
  have f117 : Fld Z h94 b81 "java/lang/String" "value" "[B" .null := f116.other W94 (Or.inl ne113)
  have f118 : Fld Z h98 b81 "java/lang/String" "value" "[B" .null := f117.other W98 (Or.inl ne113)
  have f119 : Fld Z h102 b81 "java/lang/String" "value" "[B" .null := f118.other W102 (Or.inl ne113)
  have f120 : Old Z n0 h88 := f89.ext E88
  have f121 : Old Z n0 h94 := f120.wr W94 ge90
  have f122 : Old Z n0 h98 := f121.wr W98 ge90
  have f123 : Old Z n0 h102 := f122.wr W102 ge90
  obtain ⟨_, _, ⟨T106, L106, k106, n106⟩, -, X106, ⟨Lc106, hQ106, l106, y106, z106⟩, st106⟩ := X102.specialBack hx (y := (⟨"java/lang/String", "<init>", "([C)V"⟩ : MethodName)) rfl hown (mvT hZ (own_w hw 4 rfl)) (mvT hZ (own_w hw 5 rfl)) (mvT hZ (own_w hw 6 rfl)) (by decide) (backOf (W := 1) (rmIb3 l Z a0 hw [] b81 b88 k88 ch0 ch1 ch2 (0 : Int32) (.null) w_COMPACT_STRINGS h102 n0 f123 hn3 hn5 hn7 hz_0 f110 f115 f119 f105 P1 P2 P3 P4 ge83) hZ (own_w hw 6 rfl) (own_w hw 2 rfl) (by decide) (by decide)) (g := (mkF m 79 #[lvI p0_, lvI p1_, lvI p2_, lvI ch0, lvI ch1, lvI ch2, lvI ch3, lvR b10, lvR b40, .unset, .unset, .unset, .unset, .unset] [(.ref b88), (.ref b81), (.ref b81)])) rfl (by rw [hml]; rfl) (Steps.refl _) (a := b81) (argsL := [(.ref b88)]) (rest := [(.ref b81)]) (lenOf pd_10 rfl) rfl (by show 2 * 0 + _ ≤ _; exact Nat.le_of_eq rfl) (hb hby at_79) (fun _ _ => ⟨rfl, e102, (by decide : 10 + 2 ≤ _), (by decide : 27 + 9 ≤ _)⟩)
  dsimp only [Pt.U, Pt.locs, Pt.cells, Pt.slots] at X106 l106 y106 z106 st106 hQ106
  subst l106 y106 z106
  obtain ⟨h106, e106⟩ : ∃ z, T106.heap = z := ⟨_, rfl⟩
  rw [e106] at hQ106
  obtain ⟨k_w_106, z_w_106, vs_w_106, nw__106, rfl, N106q, K106, sznw__106, g106_0, g106_1, g106_2, qx106_0⟩ := hQ106
  have N124 := Fr.app N103 N106q
  have ge125 : n0 ≤ nw__106 := Nat.le_trans (Nat.le_trans (Nat.le_of_eq f123.1.symm) f123.2.1) sznw__106
  have f126 : Keep h0 h88 [] := f91.ext E88
  have f127 : Keep h0 h94 [] := f126.wr W94 (Or.inr sz92)
  have f128 : Keep h0 h98 [] := f127.wr W98 (Or.inr sz92)
  have f129 : Keep h0 h102 [] := f128.wr W102 (Or.inr sz92)
  have sz130 : h0.size ≤ nw__106 := Nat.le_trans f129.1 sznw__106
  obtain ⟨T131, h131, X131, e131, E131, A131, D131, -, st131⟩ := newO X106 hx hZ hown (own_w hw 0 rfl) (own_w hw 1 rfl) (own_w hw 2 rfl) e106 (g := (mkF m 84 #[lvI p0_, lvI p1_, lvI p2_, lvI ch0, lvI ch1, lvI ch2, lvI ch3, lvR b10, lvR b40, lvR b81, .unset, .unset, .unset, .unset] [])) rfl (hb hby at_84) (by decide) (by decide)
  obtain ⟨b131, g131⟩ : ∃ z, z = h106.size := ⟨_, rfl⟩
  rw [← g131] at A131 D131 st131
  have f132 : Old Z n0 h106 := f123.keep K106 (allS (ge83) all0)
  have ge133 : n0 ≤ b131 := Nat.le_trans (Nat.le_trans (Nat.le_of_eq f132.1.symm) f132.2.1) (Nat.le_of_eq g131.symm)
  have f134 : Keep h0 h106 [] := f129.trans K106 (allS (Or.inr sz85) all0)
  have sz135 : h0.size ≤ b131 := Nat.le_trans f134.1 (Nat.le_of_eq g131.symm)
  have f136 : Fld Z h131 b131 "java/lang/String" "coder" "B" (.int (0 : Int32)) := D131 (Or.inr (own_w hw 27 rfl)) (ty := .byte) (by decide)
  have f137 : Fld Z h131 b131 "java/lang/String" "value" "[B" .null := D131 (Or.inr (own_w hw 29 rfl)) (ty := (.array .byte)) (by decide)
  obtain ⟨T138, h138, k138, X138, e138, E138, A138, Z138, st138⟩ := newPE X131 hx hZ (own_w hw 3 rfl) e131 (g := (mkF m 89 #[lvI p0_, lvI p1_, lvI p2_, lvI ch0, lvI ch1, lvI ch2, lvI ch3, lvR b10, lvR b40, lvR b81, .unset, .unset, .unset, .unset] [(.int (4 : Int32)), (.ref b131), (.ref b131)])) rfl (hb hby at_89) rfl (by decide) (cap := 4) (by decide) (by decide) (by decide) (by decide) (ad := "[C") (by decide)
  obtain ⟨b138, g138⟩ : ∃ z, z = h131.size := ⟨_, rfl⟩
  rw [← g138] at A138 Z138 st138
  have f139 : Old Z n0 h131 := f132.ext E131
  have ge140 : n0 ≤ b138 := Nat.le_trans (Nat.le_trans (Nat.le_of_eq f139.1.symm) f139.2.1) (Nat.le_of_eq g138.symm)
  have f141 : Keep h0 h131 [] := f134.ext E131
  have sz142 : h0.size ≤ b138 := Nat.le_trans f141.1 (Nat.le_of_eq g138.symm)
  have f143 : Arv Z h138 b138 k138 .char (4 : Int32) [(.int (0 : Int32)), (.int (0 : Int32)), (.int (0 : Int32)), (.int (0 : Int32))] (.int (0 : Int32)) := (Arv.new A138 (by decide)).pad (pad_rep [] (.int (0 : Int32)) 4)
  obtain ⟨c144, r144, q144, s144, z144, y144, G144⟩ := id f143
  have hin144 : ¬ ((0 : Int32) < 0 ∨ c144.slots.size ≤ ((0 : Int32)).toNatClampNeg) := inb_of s144 ⟨by decide, by decide⟩
  obtain ⟨T144, h144, X144, e144, W144, st144⟩ := stC X138 hx hZ e138 r144 (j := (0 : Int32)) hin144 (g := (mkF m 94 #[lvI p0_, lvI p1_, lvI p2_, lvI ch0, lvI ch1, lvI ch2, lvI ch3, lvR b10, lvR b40, lvR b81, .unset, .unset, .unset, .unset] [(.int ch0), (.int (0 : Int32)), (.ref b138), (.ref b138), (.ref b131), (.ref b131)])) rfl rfl (hb hby at_94)
  have N145 := Fr.snoc X144 N124 ge140
  have f146 : Arv Z h144 b138 k138 .char (4 : Int32) [(.int (ch0.toUInt32.toUInt16.toUInt32.toInt32)), (.int (0 : Int32)), (.int (0 : Int32)), (.int (0 : Int32))] (.int (0 : Int32)) := Arv.set r144 q144 s144 z144 y144 G144 (fits_nar_char _) W144 0 rfl (Nat.le_of_ble_eq_true rfl)
  have f147 : Arv Z h144 b138 k138 .char (4 : Int32) [(.int ch0), (.int (0 : Int32)), (.int (0 : Int32)), (.int (0 : Int32))] (.int (0 : Int32)) := by have q := f146; rw [own_chr_id hn3] at q; exact q
  obtain ⟨c148, r148, q148, s148, z148, y148, G148⟩ := id f147
  have hin148 : ¬ ((1 : Int32) < 0 ∨ c148.slots.size ≤ ((1 : Int32)).toNatClampNeg) := inb_of s148 ⟨by decide, by decide⟩
  obtain ⟨T148, h148, X148, e148, W148, st148⟩ := stC X144 hx hZ e144 r148 (j := (1 : Int32)) hin148 (g := (mkF m 99 #[lvI p0_, lvI p1_, lvI p2_, lvI ch0, lvI ch1, lvI ch2, lvI ch3, lvR b10, lvR b40, lvR b81, .unset, .unset, .unset, .unset] [(.int ch1), (.int (1 : Int32)), (.ref b138), (.ref b138), (.ref b131), (.ref b131)])) rfl rfl (hb hby at_99)
  have N149 := Fr.snoc X148 N145 ge140
  have f150 : Arv Z h148 b138 k138 .char (4 : Int32) [(.int ch0), (.int (ch1.toUInt32.toUInt16.toUInt32.toInt32)), (.int (0 : Int32)), (.int (0 : Int32))] (.int (0 : Int32)) := Arv.set r148 q148 s148 z148 y148 G148 (fits_nar_char _) W148 1 rfl (Nat.le_of_ble_eq_true rfl)
  have f151 : Arv Z h148 b138 k138 .char (4 : Int32) [(.int ch0), (.int ch1), (.int (0 : Int32)), (.int (0 : Int32))] (.int (0 : Int32)) := by have q := f150; rw [own_chr_id hn5] at q; exact q
  obtain ⟨c152, r152, q152, s152, z152, y152, G152⟩ := id f151
  have hin152 : ¬ ((2 : Int32) < 0 ∨ c152.slots.size ≤ ((2 : Int32)).toNatClampNeg) := inb_of s152 ⟨by decide, by decide⟩
  obtain ⟨T152, h152, X152, e152, W152, st152⟩ := stC X148 hx hZ e148 r152 (j := (2 : Int32)) hin152 (g := (mkF m 104 #[lvI p0_, lvI p1_, lvI p2_, lvI ch0, lvI ch1, lvI ch2, lvI ch3, lvR b10, lvR b40, lvR b81, .unset, .unset, .unset, .unset] [(.int ch2), (.int (2 : Int32)), (.ref b138), (.ref b138), (.ref b131), (.ref b131)])) rfl rfl (hb hby at_104)
  have N153 := Fr.snoc X152 N149 ge140
  have f154 : Arv Z h152 b138 k138 .char (4 : Int32) [(.int ch0), (.int ch1), (.int (ch2.toUInt32.toUInt16.toUInt32.toInt32)), (.int (0 : Int32))] (.int (0 : Int32)) := Arv.set r152 q152 s152 z152 y152 G152 (fits_nar_char _) W152 2 rfl (Nat.le_of_ble_eq_true rfl)
  have f155 : Arv Z h152 b138 k138 .char (4 : Int32) [(.int ch0), (.int ch1), (.int ch2), (.int (0 : Int32))] (.int (0 : Int32)) := by have q := f154; rw [own_chr_id hn7] at q; exact q
  obtain ⟨c156, r156, q156, s156, z156, y156, G156⟩ := id f155
  have hin156 : ¬ ((3 : Int32) < 0 ∨ c156.slots.size ≤ ((3 : Int32)).toNatClampNeg) := inb_of s156 ⟨by decide, by decide⟩
  obtain ⟨T156, h156, X156, e156, W156, st156⟩ := stC X152 hx hZ e152 r156 (j := (3 : Int32)) hin156 (g := (mkF m 109 #[lvI p0_, lvI p1_, lvI p2_, lvI ch0, lvI ch1, lvI ch2, lvI ch3, lvR b10, lvR b40, lvR b81, .unset, .unset, .unset, .unset] [(.int ch3), (.int (3 : Int32)), (.ref b138), (.ref b138), (.ref b131), (.ref b131)])) rfl rfl (hb hby at_109)
  have N157 := Fr.snoc X156 N153 ge140
  have f158 : Arv Z h156 b138 k138 .char (4 : Int32) [(.int ch0), (.int ch1), (.int ch2), (.int (ch3.toUInt32.toUInt16.toUInt32.toInt32))] (.int (0 : Int32)) := Arv.set r156 q156 s156 z156 y156 G156 (fits_nar_char _) W156 3 rfl (Nat.le_of_ble_eq_true rfl)
  have f159 : Arv Z h156 b138 k138 .char (4 : Int32) [(.int ch0), (.int ch1), (.int ch2), (.int ch3)] (.int (0 : Int32)) := by have q := f158; rw [own_chr_id hn9] at q; exact q
  have f161 : Exa Z h138 b131 "java/lang/String" := A131.ext E138
  have f162 : Exa Z h144 b131 "java/lang/String" := f161.wr W144
  have f163 : Exa Z h148 b131 "java/lang/String" := f162.wr W148
  have f164 : Exa Z h152 b131 "java/lang/String" := f163.wr W152
  have f165 : Exa Z h156 b131 "java/lang/String" := f164.wr W156
  have f166 : Fld Z h138 b131 "java/lang/String" "coder" "B" (.int (0 : Int32)) := f136.ext E138
  have ne168 : b131 ≠ b138 := Nat.ne_of_lt (Nat.lt_of_lt_of_le A131.lt (Nat.le_of_eq g138.symm))
  have f167 : Fld Z h144 b131 "java/lang/String" "coder" "B" (.int (0 : Int32)) := f166.other W144 (Or.inl ne168)
  have f169 : Fld Z h148 b131 "java/lang/String" "coder" "B" (.int (0 : Int32)) := f167.other W148 (Or.inl ne168)
  have f170 : Fld Z h152 b131 "java/lang/String" "coder" "B" (.int (0 : Int32)) := f169.other W152 (Or.inl ne168)
  have f171 : Fld Z h156 b131 "java/lang/String" "coder" "B" (.int (0 : Int32)) := f170.other W156 (Or.inl ne168)
  have f172 : Fld Z h138 b131 "java/lang/String" "value" "[B" .null := f137.ext E138
  have f173 : Fld Z h144 b131 "java/lang/String" "value" "[B" .null := f172.other W144 (Or.inl ne168)
  have f174 : Fld Z h148 b131 "java/lang/String" "value" "[B" .null := f173.other W148 (Or.inl ne168)
  have f175 : Fld Z h152 b131 "java/lang/String" "value" "[B" .null := f174.other W152 (Or.inl ne168)
  have f176 : Fld Z h156 b131 "java/lang/String" "value" "[B" .null := f175.other W156 (Or.inl ne168)
  have f177 : Old Z n0 h138 := f139.ext E138
  have f178 : Old Z n0 h144 := f177.wr W144 ge140
  have f179 : Old Z n0 h148 := f178.wr W148 ge140
  have f180 : Old Z n0 h152 := f179.wr W152 ge140
  have f181 : Old Z n0 h156 := f180.wr W156 ge140
  obtain ⟨_, _, ⟨T160, L160, k160, n160⟩, -, X160, ⟨Lc160, hQ160, l160, y160, z160⟩, st160⟩ := X156.specialBack hx (y := (⟨"java/lang/String", "<init>", "([C)V"⟩ : MethodName)) rfl hown (mvT hZ (own_w hw 4 rfl)) (mvT hZ (own_w hw 5 rfl)) (mvT hZ (own_w hw 6 rfl)) (by decide) (backOf (W := 1) (rmIb4 l Z a0 hw [] b131 b138 k138 ch0 ch1 ch2 ch3 (0 : Int32) (.null) w_COMPACT_STRINGS h156 n0 f181 hn3 hn5 hn7 hn9 hz_0 f165 f171 f176 f159 P1 P2 P3 P4 ge133) hZ (own_w hw 6 rfl) (own_w hw 2 rfl) (by decide) (by decide)) (g := (mkF m 110 #[lvI p0_, lvI p1_, lvI p2_, lvI ch0, lvI ch1, lvI ch2, lvI ch3, lvR b10, lvR b40, lvR b81, .unset, .unset, .unset, .unset] [(.ref b138), (.ref b131), (.ref b131)])) rfl (by rw [hml]; rfl) (Steps.refl _) (a := b131) (argsL := [(.ref b138)]) (rest := [(.ref b131)]) (lenOf pd_10 rfl) rfl (by show 2 * 0 + _ ≤ _; exact Nat.le_of_eq rfl) (hb hby at_110) (fun _ _ => ⟨rfl, e156, (by decide : 14 + 2 ≤ _), (by decide : 44 + 12 ≤ _)⟩)
  dsimp only [Pt.U, Pt.locs, Pt.cells, Pt.slots] at X160 l160 y160 z160 st160 hQ160
  subst l160 y160 z160
  obtain ⟨h160, e160⟩ : ∃ z, T160.heap = z := ⟨_, rfl⟩
  rw [e160] at hQ160
  obtain ⟨k_w_160, z_w_160, vs_w_160, nw__160, rfl, N160q, K160, sznw__160, g160_0, g160_1, g160_2, qx160_0⟩ := hQ160
  have N182 := Fr.app N157 N160q
  have ge183 : n0 ≤ nw__160 := Nat.le_trans (Nat.le_trans (Nat.le_of_eq f181.1.symm) f181.2.1) sznw__160
  have f184 : Keep h0 h138 [] := f141.ext E138
  have f185 : Keep h0 h144 [] := f184.wr W144 (Or.inr sz142)
  have f186 : Keep h0 h148 [] := f185.wr W148 (Or.inr sz142)
  have f187 : Keep h0 h152 [] := f186.wr W152 (Or.inr sz142)
  have f188 : Keep h0 h156 [] := f187.wr W156 (Or.inr sz142)
  have sz189 : h0.size ≤ nw__160 := Nat.le_trans f188.1 sznw__160
  have pre190 : ∀ t, own_S p e below m T160 122 #[lvI p0_, lvI p1_, lvI p2_, lvI ch0, lvI ch1, lvI ch2, lvI ch3, lvR b10, lvR b40, lvR b81, lvR b131, lvI (p2_ &&& (3 : Int32)), .unset, .unset] [(.int (p2_ &&& (3 : Int32)))] t → G t := by
    intro t kt
    refine pre8 t ?_
    show own_S p e below m s₁ 21 #[lvI p0_, lvI p1_, lvI p2_, lvI ch0, lvI ch1, lvI ch2, lvI ch3, .unset, .unset, .unset, .unset, .unset, .unset, .unset] [] _
    refine st10 _ ?_
    refine XS.dup X10.here hx rfl (hb hby at_24) rfl rfl ?_
    refine XS.iconst X10.here hx rfl (hb hby at_25) ?_
    show own_S p e below m T10 26 #[lvI p0_, lvI p1_, lvI p2_, lvI ch0, lvI ch1, lvI ch2, lvI ch3, .unset, .unset, .unset, .unset, .unset, .unset, .unset] [(.int (1 : Int32)), (.ref b10), (.ref b10)] _
    refine st15 _ ?_
    refine XS.dup X15.here hx rfl (hb hby at_28) rfl rfl ?_
    refine XS.iconst X15.here hx rfl (hb hby at_29) ?_
    refine XS.iloadN X15.here hx rfl (hb hby at_30) rfl ?_
    show own_S p e below m T15 31 #[lvI p0_, lvI p1_, lvI p2_, lvI ch0, lvI ch1, lvI ch2, lvI ch3, .unset, .unset, .unset, .unset, .unset, .unset, .unset] [(.int ch0), (.int (0 : Int32)), (.ref b15), (.ref b15), (.ref b10), (.ref b10)] _
    refine st21 _ ?_
    show own_S p e below m T21 32 #[lvI p0_, lvI p1_, lvI p2_, lvI ch0, lvI ch1, lvI ch2, lvI ch3, .unset, .unset, .unset, .unset, .unset, .unset, .unset] [(.ref b15), (.ref b10), (.ref b10)] _
    refine st25.trans ?_
    refine XS.astore X25.here hx rfl (hb hby at_35) rfl rfl (l' := #[lvI p0_, lvI p1_, lvI p2_, lvI ch0, lvI ch1, lvI ch2, lvI ch3, lvR b10, .unset, .unset, .unset, .unset, .unset, .unset]) rfl ?_
    show own_S p e below m T25 37 #[lvI p0_, lvI p1_, lvI p2_, lvI ch0, lvI ch1, lvI ch2, lvI ch3, lvR b10, .unset, .unset, .unset, .unset, .unset, .unset] [] _
    refine st40 _ ?_
    refine XS.dup X40.here hx rfl (hb hby at_40) rfl rfl ?_
    refine XS.iconst X40.here hx rfl (hb hby at_41) ?_
    show own_S p e below m T40 42 #[lvI p0_, lvI p1_, lvI p2_, lvI ch0, lvI ch1, lvI ch2, lvI ch3, lvR b10, .unset, .unset, .unset, .unset, .unset, .unset] [(.int (2 : Int32)), (.ref b40), (.ref b40)] _
    refine st47 _ ?_
    refine XS.dup X47.here hx rfl (hb hby at_44) rfl rfl ?_
    refine XS.iconst X47.here hx rfl (hb hby at_45) ?_
    refine XS.iloadN X47.here hx rfl (hb hby at_46) rfl ?_
    show own_S p e below m T47 47 #[lvI p0_, lvI p1_, lvI p2_, lvI ch0, lvI ch1, lvI ch2, lvI ch3, lvR b10, .unset, .unset, .unset, .unset, .unset, .unset] [(.int ch0), (.int (0 : Int32)), (.ref b47), (.ref b47), (.ref b40), (.ref b40)] _
    refine st53 _ ?_
    refine XS.dup X53.here hx rfl (hb hby at_48) rfl rfl ?_
    refine XS.iconst X53.here hx rfl (hb hby at_49) ?_
    refine XS.iload X53.here hx rfl (hb hby at_50) rfl ?_
    show own_S p e below m T53 52 #[lvI p0_, lvI p1_, lvI p2_, lvI ch0, lvI ch1, lvI ch2, lvI ch3, lvR b10, .unset, .unset, .unset, .unset, .unset, .unset] [(.int ch1), (.int (1 : Int32)), (.ref b47), (.ref b47), (.ref b40), (.ref b40)] _
    refine st57 _ ?_
    show own_S p e below m T57 53 #[lvI p0_, lvI p1_, lvI p2_, lvI ch0, lvI ch1, lvI ch2, lvI ch3, lvR b10, .unset, .unset, .unset, .unset, .unset, .unset] [(.ref b47), (.ref b40), (.ref b40)] _
    refine st61.trans ?_
    refine XS.astore X61.here hx rfl (hb hby at_56) rfl rfl (l' := #[lvI p0_, lvI p1_, lvI p2_, lvI ch0, lvI ch1, lvI ch2, lvI ch3, lvR b10, lvR b40, .unset, .unset, .unset, .unset, .unset]) rfl ?_
    show own_S p e below m T61 58 #[lvI p0_, lvI p1_, lvI p2_, lvI ch0, lvI ch1, lvI ch2, lvI ch3, lvR b10, lvR b40, .unset, .unset, .unset, .unset, .unset] [] _
    refine st81 _ ?_
    refine XS.dup X81.here hx rfl (hb hby at_61) rfl rfl ?_
    refine XS.iconst X81.here hx rfl (hb hby at_62) ?_
    show own_S p e below m T81 63 #[lvI p0_, lvI p1_, lvI p2_, lvI ch0, lvI ch1, lvI ch2, lvI ch3, lvR b10, lvR b40, .unset, .unset, .unset, .unset, .unset] [(.int (3 : Int32)), (.ref b81), (.ref b81)] _
    refine st88 _ ?_
    refine XS.dup X88.here hx rfl (hb hby at_65) rfl rfl ?_
    refine XS.iconst X88.here hx rfl (hb hby at_66) ?_
    refine XS.iloadN X88.here hx rfl (hb hby at_67) rfl ?_
    show own_S p e below m T88 68 #[lvI p0_, lvI p1_, lvI p2_, lvI ch0, lvI ch1, lvI ch2, lvI ch3, lvR b10, lvR b40, .unset, .unset, .unset, .unset, .unset] [(.int ch0), (.int (0 : Int32)), (.ref b88), (.ref b88), (.ref b81), (.ref b81)] _
    refine st94 _ ?_
    refine XS.dup X94.here hx rfl (hb hby at_69) rfl rfl ?_
    refine XS.iconst X94.here hx rfl (hb hby at_70) ?_
    refine XS.iload X94.here hx rfl (hb hby at_71) rfl ?_
    show own_S p e below m T94 73 #[lvI p0_, lvI p1_, lvI p2_, lvI ch0, lvI ch1, lvI ch2, lvI ch3, lvR b10, lvR b40, .unset, .unset, .unset, .unset, .unset] [(.int ch1), (.int (1 : Int32)), (.ref b88), (.ref b88), (.ref b81), (.ref b81)] _
    refine st98 _ ?_
    refine XS.dup X98.here hx rfl (hb hby at_74) rfl rfl ?_
    refine XS.iconst X98.here hx rfl (hb hby at_75) ?_
    refine XS.iload X98.here hx rfl (hb hby at_76) rfl ?_
    show own_S p e below m T98 78 #[lvI p0_, lvI p1_, lvI p2_, lvI ch0, lvI ch1, lvI ch2, lvI ch3, lvR b10, lvR b40, .unset, .unset, .unset, .unset, .unset] [(.int ch2), (.int (2 : Int32)), (.ref b88), (.ref b88), (.ref b81), (.ref b81)] _
    refine st102 _ ?_
    show own_S p e below m T102 79 #[lvI p0_, lvI p1_, lvI p2_, lvI ch0, lvI ch1, lvI ch2, lvI ch3, lvR b10, lvR b40, .unset, .unset, .unset, .unset, .unset] [(.ref b88), (.ref b81), (.ref b81)] _
    refine st106.trans ?_
    refine XS.astore X106.here hx rfl (hb hby at_82) rfl rfl (l' := #[lvI p0_, lvI p1_, lvI p2_, lvI ch0, lvI ch1, lvI ch2, lvI ch3, lvR b10, lvR b40, lvR b81, .unset, .unset, .unset, .unset]) rfl ?_
    show own_S p e below m T106 84 #[lvI p0_, lvI p1_, lvI p2_, lvI ch0, lvI ch1, lvI ch2, lvI ch3, lvR b10, lvR b40, lvR b81, .unset, .unset, .unset, .unset] [] _
    refine st131 _ ?_
    refine XS.dup X131.here hx rfl (hb hby at_87) rfl rfl ?_
    refine XS.iconst X131.here hx rfl (hb hby at_88) ?_
    show own_S p e below m T131 89 #[lvI p0_, lvI p1_, lvI p2_, lvI ch0, lvI ch1, lvI ch2, lvI ch3, lvR b10, lvR b40, lvR b81, .unset, .unset, .unset, .unset] [(.int (4 : Int32)), (.ref b131), (.ref b131)] _
    refine st138 _ ?_
    refine XS.dup X138.here hx rfl (hb hby at_91) rfl rfl ?_
    refine XS.iconst X138.here hx rfl (hb hby at_92) ?_
    refine XS.iloadN X138.here hx rfl (hb hby at_93) rfl ?_
    show own_S p e below m T138 94 #[lvI p0_, lvI p1_, lvI p2_, lvI ch0, lvI ch1, lvI ch2, lvI ch3, lvR b10, lvR b40, lvR b81, .unset, .unset, .unset, .unset] [(.int ch0), (.int (0 : Int32)), (.ref b138), (.ref b138), (.ref b131), (.ref b131)] _
    refine st144 _ ?_
    refine XS.dup X144.here hx rfl (hb hby at_95) rfl rfl ?_
    refine XS.iconst X144.here hx rfl (hb hby at_96) ?_
    refine XS.iload X144.here hx rfl (hb hby at_97) rfl ?_
    show own_S p e below m T144 99 #[lvI p0_, lvI p1_, lvI p2_, lvI ch0, lvI ch1, lvI ch2, lvI ch3, lvR b10, lvR b40, lvR b81, .unset, .unset, .unset, .unset] [(.int ch1), (.int (1 : Int32)), (.ref b138), (.ref b138), (.ref b131), (.ref b131)] _
    refine st148 _ ?_
    refine XS.dup X148.here hx rfl (hb hby at_100) rfl rfl ?_
    refine XS.iconst X148.here hx rfl (hb hby at_101) ?_
    refine XS.iload X148.here hx rfl (hb hby at_102) rfl ?_
    show own_S p e below m T148 104 #[lvI p0_, lvI p1_, lvI p2_, lvI ch0, lvI ch1, lvI ch2, lvI ch3, lvR b10, lvR b40, lvR b81, .unset, .unset, .unset, .unset] [(.int ch2), (.int (2 : Int32)), (.ref b138), (.ref b138), (.ref b131), (.ref b131)] _
    refine st152 _ ?_
    refine XS.dup X152.here hx rfl (hb hby at_105) rfl rfl ?_
    refine XS.iconst X152.here hx rfl (hb hby at_106) ?_
    refine XS.iload X152.here hx rfl (hb hby at_107) rfl ?_
    show own_S p e below m T152 109 #[lvI p0_, lvI p1_, lvI p2_, lvI ch0, lvI ch1, lvI ch2, lvI ch3, lvR b10, lvR b40, lvR b81, .unset, .unset, .unset, .unset] [(.int ch3), (.int (3 : Int32)), (.ref b138), (.ref b138), (.ref b131), (.ref b131)] _
    refine st156 _ ?_
    show own_S p e below m T156 110 #[lvI p0_, lvI p1_, lvI p2_, lvI ch0, lvI ch1, lvI ch2, lvI ch3, lvR b10, lvR b40, lvR b81, .unset, .unset, .unset, .unset] [(.ref b138), (.ref b131), (.ref b131)] _
    refine st160.trans ?_
    refine XS.astore X160.here hx rfl (hb hby at_113) rfl rfl (l' := #[lvI p0_, lvI p1_, lvI p2_, lvI ch0, lvI ch1, lvI ch2, lvI ch3, lvR b10, lvR b40, lvR b81, lvR b131, .unset, .unset, .unset]) rfl ?_
    refine XS.iloadN X160.here hx rfl (hb hby at_115) rfl ?_
    refine XS.iconst X160.here hx rfl (hb hby at_116) ?_
    refine XS.iand X160.here hx rfl (hb hby at_117) rfl ?_
    refine XS.istore X160.here hx rfl (hb hby at_118) rfl (l' := #[lvI p0_, lvI p1_, lvI p2_, lvI ch0, lvI ch1, lvI ch2, lvI ch3, lvR b10, lvR b40, lvR b81, lvR b131, lvI (p2_ &&& (3 : Int32)), .unset, .unset]) rfl ?_
    show own_S p e below m T160 120 #[lvI p0_, lvI p1_, lvI p2_, lvI ch0, lvI ch1, lvI ch2, lvI ch3, lvR b10, lvR b40, lvR b81, lvR b131, lvI (p2_ &&& (3 : Int32)), .unset, .unset] [] _
    refine XS.iload X160.here hx rfl (hb hby at_120) rfl ?_
    exact kt
  by_cases hc191 : (p2_ &&& (3 : Int32)) = (0 : Int32)
  · have f193 : Exa Z h25 b10 "java/lang/String" := f27.keep K25
    have f194 : Exa Z h40 b10 "java/lang/String" := f193.ext E40
    have f195 : Exa Z h47 b10 "java/lang/String" := f194.ext E47
    have f196 : Exa Z h53 b10 "java/lang/String" := f195.wr W53
    have f197 : Exa Z h57 b10 "java/lang/String" := f196.wr W57
    have f198 : Exa Z h61 b10 "java/lang/String" := f197.keep K61
    have f199 : Exa Z h81 b10 "java/lang/String" := f198.ext E81
    have f200 : Exa Z h88 b10 "java/lang/String" := f199.ext E88
    have f201 : Exa Z h94 b10 "java/lang/String" := f200.wr W94
    have f202 : Exa Z h98 b10 "java/lang/String" := f201.wr W98
    have f203 : Exa Z h102 b10 "java/lang/String" := f202.wr W102
    have f204 : Exa Z h106 b10 "java/lang/String" := f203.keep K106
    have f205 : Exa Z h131 b10 "java/lang/String" := f204.ext E131
    have f206 : Exa Z h138 b10 "java/lang/String" := f205.ext E138
    have f207 : Exa Z h144 b10 "java/lang/String" := f206.wr W144
    have f208 : Exa Z h148 b10 "java/lang/String" := f207.wr W148
    have f209 : Exa Z h152 b10 "java/lang/String" := f208.wr W152
    have f210 : Exa Z h156 b10 "java/lang/String" := f209.wr W156
    have f211 : Exa Z h160 b10 "java/lang/String" := f210.keep K160
    have f212 : Fld Z h40 b10 "java/lang/String" "value" "[B" (.ref nw__25) := g25_0.ext E40
    have f213 : Fld Z h47 b10 "java/lang/String" "value" "[B" (.ref nw__25) := f212.ext E47
    have ne215 : b10 ≠ b47 := Nat.ne_of_lt (Nat.lt_of_lt_of_le f194.lt (Nat.le_of_eq g47.symm))
    have f214 : Fld Z h53 b10 "java/lang/String" "value" "[B" (.ref nw__25) := f213.other W53 (Or.inl ne215)
    have f216 : Fld Z h57 b10 "java/lang/String" "value" "[B" (.ref nw__25) := f214.other W57 (Or.inl ne215)
    have ne218 : b10 ≠ b40 := Nat.ne_of_lt (Nat.lt_of_lt_of_le f193.lt (Nat.le_of_eq g40.symm))
    have f217 : Fld Z h61 b10 "java/lang/String" "value" "[B" (.ref nw__25) := f216.keep K61 (ninS ne218 nin0)
    have f219 : Fld Z h81 b10 "java/lang/String" "value" "[B" (.ref nw__25) := f217.ext E81
    have f220 : Fld Z h88 b10 "java/lang/String" "value" "[B" (.ref nw__25) := f219.ext E88
    have ne222 : b10 ≠ b88 := Nat.ne_of_lt (Nat.lt_of_lt_of_le f199.lt (Nat.le_of_eq g88.symm))
    have f221 : Fld Z h94 b10 "java/lang/String" "value" "[B" (.ref nw__25) := f220.other W94 (Or.inl ne222)
    have f223 : Fld Z h98 b10 "java/lang/String" "value" "[B" (.ref nw__25) := f221.other W98 (Or.inl ne222)
    have f224 : Fld Z h102 b10 "java/lang/String" "value" "[B" (.ref nw__25) := f223.other W102 (Or.inl ne222)
    have ne226 : b10 ≠ b81 := Nat.ne_of_lt (Nat.lt_of_lt_of_le f198.lt (Nat.le_of_eq g81.symm))
    have f225 : Fld Z h106 b10 "java/lang/String" "value" "[B" (.ref nw__25) := f224.keep K106 (ninS ne226 nin0)
    have f227 : Fld Z h131 b10 "java/lang/String" "value" "[B" (.ref nw__25) := f225.ext E131
    have f228 : Fld Z h138 b10 "java/lang/String" "value" "[B" (.ref nw__25) := f227.ext E138
    have ne230 : b10 ≠ b138 := Nat.ne_of_lt (Nat.lt_of_lt_of_le f205.lt (Nat.le_of_eq g138.symm))
    have f229 : Fld Z h144 b10 "java/lang/String" "value" "[B" (.ref nw__25) := f228.other W144 (Or.inl ne230)
    have f231 : Fld Z h148 b10 "java/lang/String" "value" "[B" (.ref nw__25) := f229.other W148 (Or.inl ne230)
    have f232 : Fld Z h152 b10 "java/lang/String" "value" "[B" (.ref nw__25) := f231.other W152 (Or.inl ne230)
    have f233 : Fld Z h156 b10 "java/lang/String" "value" "[B" (.ref nw__25) := f232.other W156 (Or.inl ne230)
    have ne235 : b10 ≠ b131 := Nat.ne_of_lt (Nat.lt_of_lt_of_le f204.lt (Nat.le_of_eq g131.symm))
    have f234 : Fld Z h160 b10 "java/lang/String" "value" "[B" (.ref nw__25) := f233.keep K160 (ninS ne235 nin0)
    have f236 : Arv Z h40 nw__25 k_w_25 .byte z_w_25 vs_w_25 (.int (0 : Int32)) := g25_2.ext E40
    have f237 : Arv Z h47 nw__25 k_w_25 .byte z_w_25 vs_w_25 (.int (0 : Int32)) := f236.ext E47
    have f239 : Exa Z h40 nw__25 "[B" := g25_1.ext E40
    have ne240 : nw__25 ≠ b47 := Nat.ne_of_lt (Nat.lt_of_lt_of_le f239.lt (Nat.le_of_eq g47.symm))
    have f238 : Arv Z h53 nw__25 k_w_25 .byte z_w_25 vs_w_25 (.int (0 : Int32)) := f237.other W53 ne240
    have f241 : Arv Z h57 nw__25 k_w_25 .byte z_w_25 vs_w_25 (.int (0 : Int32)) := f238.other W57 ne240
    have ne243 : nw__25 ≠ b40 := Nat.ne_of_lt (Nat.lt_of_lt_of_le g25_1.lt (Nat.le_of_eq g40.symm))
    have f242 : Arv Z h61 nw__25 k_w_25 .byte z_w_25 vs_w_25 (.int (0 : Int32)) := f241.keep K61 (ninS ne243 nin0)
    have f244 : Arv Z h81 nw__25 k_w_25 .byte z_w_25 vs_w_25 (.int (0 : Int32)) := f242.ext E81
    have f245 : Arv Z h88 nw__25 k_w_25 .byte z_w_25 vs_w_25 (.int (0 : Int32)) := f244.ext E88
    have f247 : Exa Z h47 nw__25 "[B" := f239.ext E47
    have f248 : Exa Z h53 nw__25 "[B" := f247.wr W53
    have f249 : Exa Z h57 nw__25 "[B" := f248.wr W57
    have f250 : Exa Z h61 nw__25 "[B" := f249.keep K61
    have f251 : Exa Z h81 nw__25 "[B" := f250.ext E81
    have ne252 : nw__25 ≠ b88 := Nat.ne_of_lt (Nat.lt_of_lt_of_le f251.lt (Nat.le_of_eq g88.symm))
    have f246 : Arv Z h94 nw__25 k_w_25 .byte z_w_25 vs_w_25 (.int (0 : Int32)) := f245.other W94 ne252
    have f253 : Arv Z h98 nw__25 k_w_25 .byte z_w_25 vs_w_25 (.int (0 : Int32)) := f246.other W98 ne252
    have f254 : Arv Z h102 nw__25 k_w_25 .byte z_w_25 vs_w_25 (.int (0 : Int32)) := f253.other W102 ne252
    have ne256 : nw__25 ≠ b81 := Nat.ne_of_lt (Nat.lt_of_lt_of_le f250.lt (Nat.le_of_eq g81.symm))
    have f255 : Arv Z h106 nw__25 k_w_25 .byte z_w_25 vs_w_25 (.int (0 : Int32)) := f254.keep K106 (ninS ne256 nin0)
    have f257 : Arv Z h131 nw__25 k_w_25 .byte z_w_25 vs_w_25 (.int (0 : Int32)) := f255.ext E131
    have f258 : Arv Z h138 nw__25 k_w_25 .byte z_w_25 vs_w_25 (.int (0 : Int32)) := f257.ext E138
    have f260 : Exa Z h88 nw__25 "[B" := f251.ext E88
    have f261 : Exa Z h94 nw__25 "[B" := f260.wr W94
    have f262 : Exa Z h98 nw__25 "[B" := f261.wr W98
    have f263 : Exa Z h102 nw__25 "[B" := f262.wr W102
    have f264 : Exa Z h106 nw__25 "[B" := f263.keep K106
    have f265 : Exa Z h131 nw__25 "[B" := f264.ext E131
    have ne266 : nw__25 ≠ b138 := Nat.ne_of_lt (Nat.lt_of_lt_of_le f265.lt (Nat.le_of_eq g138.symm))
    have f259 : Arv Z h144 nw__25 k_w_25 .byte z_w_25 vs_w_25 (.int (0 : Int32)) := f258.other W144 ne266
    have f267 : Arv Z h148 nw__25 k_w_25 .byte z_w_25 vs_w_25 (.int (0 : Int32)) := f259.other W148 ne266
    have f268 : Arv Z h152 nw__25 k_w_25 .byte z_w_25 vs_w_25 (.int (0 : Int32)) := f267.other W152 ne266
    have f269 : Arv Z h156 nw__25 k_w_25 .byte z_w_25 vs_w_25 (.int (0 : Int32)) := f268.other W156 ne266
    have ne271 : nw__25 ≠ b131 := Nat.ne_of_lt (Nat.lt_of_lt_of_le f264.lt (Nat.le_of_eq g131.symm))
    have f270 : Arv Z h160 nw__25 k_w_25 .byte z_w_25 vs_w_25 (.int (0 : Int32)) := f269.keep K160 (ninS ne271 nin0)
    have f272 : Old Z n0 h160 := f181.keep K160 (allS (ge133) all0)
    obtain ⟨_, _, ⟨T192, L192, k192, n192⟩, -, X192, hS192, hg192, ⟨Lc192, hQ192, l192, y192, z192⟩, st192⟩ := callSS X160 hx (y := mn1) hown (mvT hZ (own_w hw 30 rfl)) (mvT hZ (own_w hw 31 rfl)) (mvT hZ (own_w hw 32 rfl)) (mvT hZ (own_w hw 33 rfl)) (by decide) (backOfS (W := 0) (rmReq l Z a0 hw [] b10 nw__25 k_w_25 z_w_25 vs_w_25 h160 n0 f272 qx25_0 f211 f234 f270) hZ (own_w hw 33 rfl) (own_w hw 32 rfl) (by decide) (by decide)) (g := (mkF m 164 #[lvI p0_, lvI p1_, lvI p2_, lvI ch0, lvI ch1, lvI ch2, lvI ch3, lvR b10, lvR b40, lvR b81, lvR b131, lvI (p2_ &&& (3 : Int32)), lvR b10, .unset] [(.ref b10)])) rfl (by rw [hml]; rfl) (argsL := [(.ref b10)]) (rest := []) (lenOf pd_11 rfl) rfl (by show 2 * 0 + _ ≤ _; exact Nat.le_of_eq rfl) (hb hby at_164) (fun _ _ => ⟨rfl, e160, (by decide : 16 + 2 ≤ _), (by decide : 56 + 40 ≤ _)⟩)
    dsimp only [Pt.U, Pt.locs, Pt.cells, Pt.slots] at X192 l192 y192 z192 st192 hQ192
    subst l192 y192 z192
    obtain ⟨h192, e192⟩ : ∃ z, T192.heap = z := ⟨_, rfl⟩
    rw [e192] at hQ192
    obtain ⟨rfl, N192q, K192⟩ := hQ192
    have N273 := Fr.app N182 N192q
    have pre274 : ∀ t, own_S p e below m T192 181 #[lvI p0_, lvI p1_, lvI p2_, lvI ch0, lvI ch1, lvI ch2, lvI ch3, lvR b10, lvR b40, lvR b81, lvR b131, lvI (p2_ &&& (3 : Int32)), lvR b10, lvR b10] [(.int (1 : Int32))] t → G t := by
      intro t kt
      refine pre190 t ?_
      show own_S p e below m T160 122 #[lvI p0_, lvI p1_, lvI p2_, lvI ch0, lvI ch1, lvI ch2, lvI ch3, lvR b10, lvR b40, lvR b81, lvR b131, lvI (p2_ &&& (3 : Int32)), .unset, .unset] [(.int (p2_ &&& (3 : Int32)))] _
      refine XS.ifNo X160.here hx rfl (hb hby at_122) rfl ((if0 _ _).trans (teq hc191).2) ?_
      refine XS.aload X160.here hx rfl (hb hby at_125) rfl rfl ?_
      refine XS.astore X160.here hx rfl (hb hby at_127) rfl rfl (l' := #[lvI p0_, lvI p1_, lvI p2_, lvI ch0, lvI ch1, lvI ch2, lvI ch3, lvR b10, lvR b40, lvR b81, lvR b131, lvI (p2_ &&& (3 : Int32)), lvR b10, .unset]) rfl ?_
      refine XS.goto X160.here hx rfl (pc0 := 129) (pc' := 162) rfl (hb hby at_129) (by decide) (by decide) ?_
      refine XS.aload X160.here hx rfl (hb hby at_162) rfl rfl ?_
      show own_S p e below m T160 164 #[lvI p0_, lvI p1_, lvI p2_, lvI ch0, lvI ch1, lvI ch2, lvI ch3, lvR b10, lvR b40, lvR b81, lvR b131, lvI (p2_ &&& (3 : Int32)), lvR b10, .unset] [(.ref b10)] _
      refine st192.trans ?_
      refine XS.astore X192.here hx rfl (hb hby at_167) rfl rfl (l' := #[lvI p0_, lvI p1_, lvI p2_, lvI ch0, lvI ch1, lvI ch2, lvI ch3, lvR b10, lvR b40, lvR b81, lvR b131, lvI (p2_ &&& (3 : Int32)), lvR b10, lvR b10]) rfl ?_
      refine XS.aload X192.here hx rfl (hb hby at_169) rfl rfl ?_
      refine XS.aload X192.here hx rfl (hb hby at_171) rfl rfl ?_
      show own_S p e below m T192 173 #[lvI p0_, lvI p1_, lvI p2_, lvI ch0, lvI ch1, lvI ch2, lvI ch3, lvR b10, lvR b40, lvR b81, lvR b131, lvI (p2_ &&& (3 : Int32)), lvR b10, lvR b10] [(.ref b10), (.ref b10)] _
      refine Jvm.RoadKit.acmp (g := (mkF m 173 #[lvI p0_, lvI p1_, lvI p2_, lvI ch0, lvI ch1, lvI ch2, lvI ch3, lvR b10, lvR b40, lvR b81, lvR b131, lvI (p2_ &&& (3 : Int32)), lvR b10, lvR b10] [(.ref b10), (.ref b10)])) X192 hx rfl rfl rfl (pc0 := 173) (pc' := 176) (same := true) rfl (hb hby at_173) rfl (decide_eq_true rfl) (by decide) (by decide) ?_
      refine XS.iconst X192.here hx rfl (hb hby at_176) ?_
      refine XS.goto X192.here hx rfl (pc0 := 177) (pc' := 181) rfl (hb hby at_177) (by decide) (by decide) ?_
      exact kt
    obtain ⟨fs, hr, hrun, hended, hEnd⟩ := X192.leaveW hS192 (Nat.le_refl _) (v := some (.int (1 : Int32))) (fun h => by rw [Bd.returns] at h; cases h)
    refine ⟨_, _, hG _ (pre274 _ (retN X192 hx (t := .boolean) Bd.returns (by simp) (hb hby at_181) hr)), hrun, hended, _, _, rfl, ?_, ⟨hEnd.1, hEnd.2.1, hEnd.2.2.1, hEnd.2.2.2.mono (by decide) (by decide)⟩⟩
    show QLaw Z p0_ p1_ p2_ w_COMPACT_STRINGS h0 n0 _ T192.heap _
    rw [e192]
    exact ⟨rfl, N273⟩
  · have pre276 : ∀ t, own_S p e below m T160 135 #[lvI p0_, lvI p1_, lvI p2_, lvI ch0, lvI ch1, lvI ch2, lvI ch3, lvR b10, lvR b40, lvR b81, lvR b131, lvI (p2_ &&& (3 : Int32)), .unset, .unset] [(.int (1 : Int32)), (.int (p2_ &&& (3 : Int32)))] t → G t := by
      intro t kt
      refine pre190 t ?_
      show own_S p e below m T160 122 #[lvI p0_, lvI p1_, lvI p2_, lvI ch0, lvI ch1, lvI ch2, lvI ch3, lvR b10, lvR b40, lvR b81, lvR b131, lvI (p2_ &&& (3 : Int32)), .unset, .unset] [(.int (p2_ &&& (3 : Int32)))] _
      refine XS.ifYes X160.here hx rfl (pc0 := 122) (pc' := 132) rfl (hb hby at_122) rfl ((if0 _ _).trans (feq hc191).2) (by decide) (by decide) ?_
      refine XS.iload X160.here hx rfl (hb hby at_132) rfl ?_
      refine XS.iconst X160.here hx rfl (hb hby at_134) ?_
      exact kt
    by_cases hc277 : (p2_ &&& (3 : Int32)) = (1 : Int32)
    · have f279 : Exa Z h61 b40 "java/lang/String" := f64.keep K61
      have f280 : Exa Z h81 b40 "java/lang/String" := f279.ext E81
      have f281 : Exa Z h88 b40 "java/lang/String" := f280.ext E88
      have f282 : Exa Z h94 b40 "java/lang/String" := f281.wr W94
      have f283 : Exa Z h98 b40 "java/lang/String" := f282.wr W98
      have f284 : Exa Z h102 b40 "java/lang/String" := f283.wr W102
      have f285 : Exa Z h106 b40 "java/lang/String" := f284.keep K106
      have f286 : Exa Z h131 b40 "java/lang/String" := f285.ext E131
      have f287 : Exa Z h138 b40 "java/lang/String" := f286.ext E138
      have f288 : Exa Z h144 b40 "java/lang/String" := f287.wr W144
      have f289 : Exa Z h148 b40 "java/lang/String" := f288.wr W148
      have f290 : Exa Z h152 b40 "java/lang/String" := f289.wr W152
      have f291 : Exa Z h156 b40 "java/lang/String" := f290.wr W156
      have f292 : Exa Z h160 b40 "java/lang/String" := f291.keep K160
      have f293 : Fld Z h81 b40 "java/lang/String" "value" "[B" (.ref nw__61) := g61_0.ext E81
      have f294 : Fld Z h88 b40 "java/lang/String" "value" "[B" (.ref nw__61) := f293.ext E88
      have ne296 : b40 ≠ b88 := Nat.ne_of_lt (Nat.lt_of_lt_of_le f280.lt (Nat.le_of_eq g88.symm))
      have f295 : Fld Z h94 b40 "java/lang/String" "value" "[B" (.ref nw__61) := f294.other W94 (Or.inl ne296)
      have f297 : Fld Z h98 b40 "java/lang/String" "value" "[B" (.ref nw__61) := f295.other W98 (Or.inl ne296)
      have f298 : Fld Z h102 b40 "java/lang/String" "value" "[B" (.ref nw__61) := f297.other W102 (Or.inl ne296)
      have ne300 : b40 ≠ b81 := Nat.ne_of_lt (Nat.lt_of_lt_of_le f279.lt (Nat.le_of_eq g81.symm))
      have f299 : Fld Z h106 b40 "java/lang/String" "value" "[B" (.ref nw__61) := f298.keep K106 (ninS ne300 nin0)
      have f301 : Fld Z h131 b40 "java/lang/String" "value" "[B" (.ref nw__61) := f299.ext E131
      have f302 : Fld Z h138 b40 "java/lang/String" "value" "[B" (.ref nw__61) := f301.ext E138
      have ne304 : b40 ≠ b138 := Nat.ne_of_lt (Nat.lt_of_lt_of_le f286.lt (Nat.le_of_eq g138.symm))
      have f303 : Fld Z h144 b40 "java/lang/String" "value" "[B" (.ref nw__61) := f302.other W144 (Or.inl ne304)
      have f305 : Fld Z h148 b40 "java/lang/String" "value" "[B" (.ref nw__61) := f303.other W148 (Or.inl ne304)
      have f306 : Fld Z h152 b40 "java/lang/String" "value" "[B" (.ref nw__61) := f305.other W152 (Or.inl ne304)
      have f307 : Fld Z h156 b40 "java/lang/String" "value" "[B" (.ref nw__61) := f306.other W156 (Or.inl ne304)
      have ne309 : b40 ≠ b131 := Nat.ne_of_lt (Nat.lt_of_lt_of_le f285.lt (Nat.le_of_eq g131.symm))
      have f308 : Fld Z h160 b40 "java/lang/String" "value" "[B" (.ref nw__61) := f307.keep K160 (ninS ne309 nin0)
      have f310 : Arv Z h81 nw__61 k_w_61 .byte z_w_61 vs_w_61 (.int (0 : Int32)) := g61_2.ext E81
      have f311 : Arv Z h88 nw__61 k_w_61 .byte z_w_61 vs_w_61 (.int (0 : Int32)) := f310.ext E88
      have f313 : Exa Z h81 nw__61 "[B" := g61_1.ext E81
      have ne314 : nw__61 ≠ b88 := Nat.ne_of_lt (Nat.lt_of_lt_of_le f313.lt (Nat.le_of_eq g88.symm))
      have f312 : Arv Z h94 nw__61 k_w_61 .byte z_w_61 vs_w_61 (.int (0 : Int32)) := f311.other W94 ne314
      have f315 : Arv Z h98 nw__61 k_w_61 .byte z_w_61 vs_w_61 (.int (0 : Int32)) := f312.other W98 ne314
      have f316 : Arv Z h102 nw__61 k_w_61 .byte z_w_61 vs_w_61 (.int (0 : Int32)) := f315.other W102 ne314
      have ne318 : nw__61 ≠ b81 := Nat.ne_of_lt (Nat.lt_of_lt_of_le g61_1.lt (Nat.le_of_eq g81.symm))
      have f317 : Arv Z h106 nw__61 k_w_61 .byte z_w_61 vs_w_61 (.int (0 : Int32)) := f316.keep K106 (ninS ne318 nin0)
      have f319 : Arv Z h131 nw__61 k_w_61 .byte z_w_61 vs_w_61 (.int (0 : Int32)) := f317.ext E131
      have f320 : Arv Z h138 nw__61 k_w_61 .byte z_w_61 vs_w_61 (.int (0 : Int32)) := f319.ext E138
      have f322 : Exa Z h88 nw__61 "[B" := f313.ext E88
      have f323 : Exa Z h94 nw__61 "[B" := f322.wr W94
      have f324 : Exa Z h98 nw__61 "[B" := f323.wr W98
      have f325 : Exa Z h102 nw__61 "[B" := f324.wr W102
      have f326 : Exa Z h106 nw__61 "[B" := f325.keep K106
      have f327 : Exa Z h131 nw__61 "[B" := f326.ext E131
      have ne328 : nw__61 ≠ b138 := Nat.ne_of_lt (Nat.lt_of_lt_of_le f327.lt (Nat.le_of_eq g138.symm))
      have f321 : Arv Z h144 nw__61 k_w_61 .byte z_w_61 vs_w_61 (.int (0 : Int32)) := f320.other W144 ne328
      have f329 : Arv Z h148 nw__61 k_w_61 .byte z_w_61 vs_w_61 (.int (0 : Int32)) := f321.other W148 ne328
      have f330 : Arv Z h152 nw__61 k_w_61 .byte z_w_61 vs_w_61 (.int (0 : Int32)) := f329.other W152 ne328
      have f331 : Arv Z h156 nw__61 k_w_61 .byte z_w_61 vs_w_61 (.int (0 : Int32)) := f330.other W156 ne328
      have ne333 : nw__61 ≠ b131 := Nat.ne_of_lt (Nat.lt_of_lt_of_le f326.lt (Nat.le_of_eq g131.symm))
      have f332 : Arv Z h160 nw__61 k_w_61 .byte z_w_61 vs_w_61 (.int (0 : Int32)) := f331.keep K160 (ninS ne333 nin0)
      have f334 : Old Z n0 h160 := f181.keep K160 (allS (ge133) all0)
      obtain ⟨_, _, ⟨T278, L278, k278, n278⟩, -, X278, hS278, hg278, ⟨Lc278, hQ278, l278, y278, z278⟩, st278⟩ := callSS X160 hx (y := mn1) hown (mvT hZ (own_w hw 30 rfl)) (mvT hZ (own_w hw 31 rfl)) (mvT hZ (own_w hw 32 rfl)) (mvT hZ (own_w hw 33 rfl)) (by decide) (backOfS (W := 0) (rmReq l Z a0 hw [] b40 nw__61 k_w_61 z_w_61 vs_w_61 h160 n0 f334 qx61_0 f292 f308 f332) hZ (own_w hw 33 rfl) (own_w hw 32 rfl) (by decide) (by decide)) (g := (mkF m 164 #[lvI p0_, lvI p1_, lvI p2_, lvI ch0, lvI ch1, lvI ch2, lvI ch3, lvR b10, lvR b40, lvR b81, lvR b131, lvI (p2_ &&& (3 : Int32)), lvR b40, .unset] [(.ref b40)])) rfl (by rw [hml]; rfl) (argsL := [(.ref b40)]) (rest := []) (lenOf pd_11 rfl) rfl (by show 2 * 0 + _ ≤ _; exact Nat.le_of_eq rfl) (hb hby at_164) (fun _ _ => ⟨rfl, e160, (by decide : 16 + 2 ≤ _), (by decide : 56 + 40 ≤ _)⟩)
      dsimp only [Pt.U, Pt.locs, Pt.cells, Pt.slots] at X278 l278 y278 z278 st278 hQ278
      subst l278 y278 z278
      obtain ⟨h278, e278⟩ : ∃ z, T278.heap = z := ⟨_, rfl⟩
      rw [e278] at hQ278
      obtain ⟨rfl, N278q, K278⟩ := hQ278
      have N335 := Fr.app N182 N278q
      have pre336 : ∀ t, own_S p e below m T278 181 #[lvI p0_, lvI p1_, lvI p2_, lvI ch0, lvI ch1, lvI ch2, lvI ch3, lvR b10, lvR b40, lvR b81, lvR b131, lvI (p2_ &&& (3 : Int32)), lvR b40, lvR b40] [(.int (1 : Int32))] t → G t := by
        intro t kt
        refine pre276 t ?_
        show own_S p e below m T160 135 #[lvI p0_, lvI p1_, lvI p2_, lvI ch0, lvI ch1, lvI ch2, lvI ch3, lvR b10, lvR b40, lvR b81, lvR b131, lvI (p2_ &&& (3 : Int32)), .unset, .unset] [(.int (1 : Int32)), (.int (p2_ &&& (3 : Int32)))] _
        refine XS.icmpNo X160.here hx rfl (hb hby at_135) rfl (teq hc277).2 ?_
        refine XS.aload X160.here hx rfl (hb hby at_138) rfl rfl ?_
        refine XS.astore X160.here hx rfl (hb hby at_140) rfl rfl (l' := #[lvI p0_, lvI p1_, lvI p2_, lvI ch0, lvI ch1, lvI ch2, lvI ch3, lvR b10, lvR b40, lvR b81, lvR b131, lvI (p2_ &&& (3 : Int32)), lvR b40, .unset]) rfl ?_
        refine XS.goto X160.here hx rfl (pc0 := 142) (pc' := 162) rfl (hb hby at_142) (by decide) (by decide) ?_
        refine XS.aload X160.here hx rfl (hb hby at_162) rfl rfl ?_
        show own_S p e below m T160 164 #[lvI p0_, lvI p1_, lvI p2_, lvI ch0, lvI ch1, lvI ch2, lvI ch3, lvR b10, lvR b40, lvR b81, lvR b131, lvI (p2_ &&& (3 : Int32)), lvR b40, .unset] [(.ref b40)] _
        refine st278.trans ?_
        refine XS.astore X278.here hx rfl (hb hby at_167) rfl rfl (l' := #[lvI p0_, lvI p1_, lvI p2_, lvI ch0, lvI ch1, lvI ch2, lvI ch3, lvR b10, lvR b40, lvR b81, lvR b131, lvI (p2_ &&& (3 : Int32)), lvR b40, lvR b40]) rfl ?_
        refine XS.aload X278.here hx rfl (hb hby at_169) rfl rfl ?_
        refine XS.aload X278.here hx rfl (hb hby at_171) rfl rfl ?_
        show own_S p e below m T278 173 #[lvI p0_, lvI p1_, lvI p2_, lvI ch0, lvI ch1, lvI ch2, lvI ch3, lvR b10, lvR b40, lvR b81, lvR b131, lvI (p2_ &&& (3 : Int32)), lvR b40, lvR b40] [(.ref b40), (.ref b40)] _
        refine Jvm.RoadKit.acmp (g := (mkF m 173 #[lvI p0_, lvI p1_, lvI p2_, lvI ch0, lvI ch1, lvI ch2, lvI ch3, lvR b10, lvR b40, lvR b81, lvR b131, lvI (p2_ &&& (3 : Int32)), lvR b40, lvR b40] [(.ref b40), (.ref b40)])) X278 hx rfl rfl rfl (pc0 := 173) (pc' := 176) (same := true) rfl (hb hby at_173) rfl (decide_eq_true rfl) (by decide) (by decide) ?_
        refine XS.iconst X278.here hx rfl (hb hby at_176) ?_
        refine XS.goto X278.here hx rfl (pc0 := 177) (pc' := 181) rfl (hb hby at_177) (by decide) (by decide) ?_
        exact kt
      obtain ⟨fs, hr, hrun, hended, hEnd⟩ := X278.leaveW hS278 (Nat.le_refl _) (v := some (.int (1 : Int32))) (fun h => by rw [Bd.returns] at h; cases h)
      refine ⟨_, _, hG _ (pre336 _ (retN X278 hx (t := .boolean) Bd.returns (by simp) (hb hby at_181) hr)), hrun, hended, _, _, rfl, ?_, ⟨hEnd.1, hEnd.2.1, hEnd.2.2.1, hEnd.2.2.2.mono (by decide) (by decide)⟩⟩
      show QLaw Z p0_ p1_ p2_ w_COMPACT_STRINGS h0 n0 _ T278.heap _
      rw [e278]
      exact ⟨rfl, N335⟩
    · have pre338 : ∀ t, own_S p e below m T160 148 #[lvI p0_, lvI p1_, lvI p2_, lvI ch0, lvI ch1, lvI ch2, lvI ch3, lvR b10, lvR b40, lvR b81, lvR b131, lvI (p2_ &&& (3 : Int32)), .unset, .unset] [(.int (2 : Int32)), (.int (p2_ &&& (3 : Int32)))] t → G t := by
        intro t kt
        refine pre276 t ?_
        show own_S p e below m T160 135 #[lvI p0_, lvI p1_, lvI p2_, lvI ch0, lvI ch1, lvI ch2, lvI ch3, lvR b10, lvR b40, lvR b81, lvR b131, lvI (p2_ &&& (3 : Int32)), .unset, .unset] [(.int (1 : Int32)), (.int (p2_ &&& (3 : Int32)))] _
        refine XS.icmpYes X160.here hx rfl (pc0 := 135) (pc' := 145) rfl (hb hby at_135) rfl (feq hc277).2 (by decide) (by decide) ?_
        refine XS.iload X160.here hx rfl (hb hby at_145) rfl ?_
        refine XS.iconst X160.here hx rfl (hb hby at_147) ?_
        exact kt
      by_cases hc339 : (p2_ &&& (3 : Int32)) = (2 : Int32)
      · have f341 : Exa Z h106 b81 "java/lang/String" := f110.keep K106
        have f342 : Exa Z h131 b81 "java/lang/String" := f341.ext E131
        have f343 : Exa Z h138 b81 "java/lang/String" := f342.ext E138
        have f344 : Exa Z h144 b81 "java/lang/String" := f343.wr W144
        have f345 : Exa Z h148 b81 "java/lang/String" := f344.wr W148
        have f346 : Exa Z h152 b81 "java/lang/String" := f345.wr W152
        have f347 : Exa Z h156 b81 "java/lang/String" := f346.wr W156
        have f348 : Exa Z h160 b81 "java/lang/String" := f347.keep K160
        have f349 : Fld Z h131 b81 "java/lang/String" "value" "[B" (.ref nw__106) := g106_0.ext E131
        have f350 : Fld Z h138 b81 "java/lang/String" "value" "[B" (.ref nw__106) := f349.ext E138
        have ne352 : b81 ≠ b138 := Nat.ne_of_lt (Nat.lt_of_lt_of_le f342.lt (Nat.le_of_eq g138.symm))
        have f351 : Fld Z h144 b81 "java/lang/String" "value" "[B" (.ref nw__106) := f350.other W144 (Or.inl ne352)
        have f353 : Fld Z h148 b81 "java/lang/String" "value" "[B" (.ref nw__106) := f351.other W148 (Or.inl ne352)
        have f354 : Fld Z h152 b81 "java/lang/String" "value" "[B" (.ref nw__106) := f353.other W152 (Or.inl ne352)
        have f355 : Fld Z h156 b81 "java/lang/String" "value" "[B" (.ref nw__106) := f354.other W156 (Or.inl ne352)
        have ne357 : b81 ≠ b131 := Nat.ne_of_lt (Nat.lt_of_lt_of_le f341.lt (Nat.le_of_eq g131.symm))
        have f356 : Fld Z h160 b81 "java/lang/String" "value" "[B" (.ref nw__106) := f355.keep K160 (ninS ne357 nin0)
        have f358 : Arv Z h131 nw__106 k_w_106 .byte z_w_106 vs_w_106 (.int (0 : Int32)) := g106_2.ext E131
        have f359 : Arv Z h138 nw__106 k_w_106 .byte z_w_106 vs_w_106 (.int (0 : Int32)) := f358.ext E138
        have f361 : Exa Z h131 nw__106 "[B" := g106_1.ext E131
        have ne362 : nw__106 ≠ b138 := Nat.ne_of_lt (Nat.lt_of_lt_of_le f361.lt (Nat.le_of_eq g138.symm))
        have f360 : Arv Z h144 nw__106 k_w_106 .byte z_w_106 vs_w_106 (.int (0 : Int32)) := f359.other W144 ne362
        have f363 : Arv Z h148 nw__106 k_w_106 .byte z_w_106 vs_w_106 (.int (0 : Int32)) := f360.other W148 ne362
        have f364 : Arv Z h152 nw__106 k_w_106 .byte z_w_106 vs_w_106 (.int (0 : Int32)) := f363.other W152 ne362
        have f365 : Arv Z h156 nw__106 k_w_106 .byte z_w_106 vs_w_106 (.int (0 : Int32)) := f364.other W156 ne362
        have ne367 : nw__106 ≠ b131 := Nat.ne_of_lt (Nat.lt_of_lt_of_le g106_1.lt (Nat.le_of_eq g131.symm))
        have f366 : Arv Z h160 nw__106 k_w_106 .byte z_w_106 vs_w_106 (.int (0 : Int32)) := f365.keep K160 (ninS ne367 nin0)
        have f368 : Old Z n0 h160 := f181.keep K160 (allS (ge133) all0)
        obtain ⟨_, _, ⟨T340, L340, k340, n340⟩, -, X340, hS340, hg340, ⟨Lc340, hQ340, l340, y340, z340⟩, st340⟩ := callSS X160 hx (y := mn1) hown (mvT hZ (own_w hw 30 rfl)) (mvT hZ (own_w hw 31 rfl)) (mvT hZ (own_w hw 32 rfl)) (mvT hZ (own_w hw 33 rfl)) (by decide) (backOfS (W := 0) (rmReq l Z a0 hw [] b81 nw__106 k_w_106 z_w_106 vs_w_106 h160 n0 f368 qx106_0 f348 f356 f366) hZ (own_w hw 33 rfl) (own_w hw 32 rfl) (by decide) (by decide)) (g := (mkF m 164 #[lvI p0_, lvI p1_, lvI p2_, lvI ch0, lvI ch1, lvI ch2, lvI ch3, lvR b10, lvR b40, lvR b81, lvR b131, lvI (p2_ &&& (3 : Int32)), lvR b81, .unset] [(.ref b81)])) rfl (by rw [hml]; rfl) (argsL := [(.ref b81)]) (rest := []) (lenOf pd_11 rfl) rfl (by show 2 * 0 + _ ≤ _; exact Nat.le_of_eq rfl) (hb hby at_164) (fun _ _ => ⟨rfl, e160, (by decide : 16 + 2 ≤ _), (by decide : 56 + 40 ≤ _)⟩)
        dsimp only [Pt.U, Pt.locs, Pt.cells, Pt.slots] at X340 l340 y340 z340 st340 hQ340
        subst l340 y340 z340
        obtain ⟨h340, e340⟩ : ∃ z, T340.heap = z := ⟨_, rfl⟩
        rw [e340] at hQ340
        obtain ⟨rfl, N340q, K340⟩ := hQ340
        have N369 := Fr.app N182 N340q
        have pre370 : ∀ t, own_S p e below m T340 181 #[lvI p0_, lvI p1_, lvI p2_, lvI ch0, lvI ch1, lvI ch2, lvI ch3, lvR b10, lvR b40, lvR b81, lvR b131, lvI (p2_ &&& (3 : Int32)), lvR b81, lvR b81] [(.int (1 : Int32))] t → G t := by
          intro t kt
          refine pre338 t ?_
          show own_S p e below m T160 148 #[lvI p0_, lvI p1_, lvI p2_, lvI ch0, lvI ch1, lvI ch2, lvI ch3, lvR b10, lvR b40, lvR b81, lvR b131, lvI (p2_ &&& (3 : Int32)), .unset, .unset] [(.int (2 : Int32)), (.int (p2_ &&& (3 : Int32)))] _
          refine XS.icmpNo X160.here hx rfl (hb hby at_148) rfl (teq hc339).2 ?_
          refine XS.aload X160.here hx rfl (hb hby at_151) rfl rfl ?_
          refine XS.astore X160.here hx rfl (hb hby at_153) rfl rfl (l' := #[lvI p0_, lvI p1_, lvI p2_, lvI ch0, lvI ch1, lvI ch2, lvI ch3, lvR b10, lvR b40, lvR b81, lvR b131, lvI (p2_ &&& (3 : Int32)), lvR b81, .unset]) rfl ?_
          refine XS.goto X160.here hx rfl (pc0 := 155) (pc' := 162) rfl (hb hby at_155) (by decide) (by decide) ?_
          refine XS.aload X160.here hx rfl (hb hby at_162) rfl rfl ?_
          show own_S p e below m T160 164 #[lvI p0_, lvI p1_, lvI p2_, lvI ch0, lvI ch1, lvI ch2, lvI ch3, lvR b10, lvR b40, lvR b81, lvR b131, lvI (p2_ &&& (3 : Int32)), lvR b81, .unset] [(.ref b81)] _
          refine st340.trans ?_
          refine XS.astore X340.here hx rfl (hb hby at_167) rfl rfl (l' := #[lvI p0_, lvI p1_, lvI p2_, lvI ch0, lvI ch1, lvI ch2, lvI ch3, lvR b10, lvR b40, lvR b81, lvR b131, lvI (p2_ &&& (3 : Int32)), lvR b81, lvR b81]) rfl ?_
          refine XS.aload X340.here hx rfl (hb hby at_169) rfl rfl ?_
          refine XS.aload X340.here hx rfl (hb hby at_171) rfl rfl ?_
          show own_S p e below m T340 173 #[lvI p0_, lvI p1_, lvI p2_, lvI ch0, lvI ch1, lvI ch2, lvI ch3, lvR b10, lvR b40, lvR b81, lvR b131, lvI (p2_ &&& (3 : Int32)), lvR b81, lvR b81] [(.ref b81), (.ref b81)] _
          refine Jvm.RoadKit.acmp (g := (mkF m 173 #[lvI p0_, lvI p1_, lvI p2_, lvI ch0, lvI ch1, lvI ch2, lvI ch3, lvR b10, lvR b40, lvR b81, lvR b131, lvI (p2_ &&& (3 : Int32)), lvR b81, lvR b81] [(.ref b81), (.ref b81)])) X340 hx rfl rfl rfl (pc0 := 173) (pc' := 176) (same := true) rfl (hb hby at_173) rfl (decide_eq_true rfl) (by decide) (by decide) ?_
          refine XS.iconst X340.here hx rfl (hb hby at_176) ?_
          refine XS.goto X340.here hx rfl (pc0 := 177) (pc' := 181) rfl (hb hby at_177) (by decide) (by decide) ?_
          exact kt
        obtain ⟨fs, hr, hrun, hended, hEnd⟩ := X340.leaveW hS340 (Nat.le_refl _) (v := some (.int (1 : Int32))) (fun h => by rw [Bd.returns] at h; cases h)
        refine ⟨_, _, hG _ (pre370 _ (retN X340 hx (t := .boolean) Bd.returns (by simp) (hb hby at_181) hr)), hrun, hended, _, _, rfl, ?_, ⟨hEnd.1, hEnd.2.1, hEnd.2.2.1, hEnd.2.2.2.mono (by decide) (by decide)⟩⟩
        show QLaw Z p0_ p1_ p2_ w_COMPACT_STRINGS h0 n0 _ T340.heap _
        rw [e340]
        exact ⟨rfl, N369⟩
      · have f373 : Exa Z h160 b131 "java/lang/String" := f165.keep K160
        have f374 : Old Z n0 h160 := f181.keep K160 (allS (ge133) all0)
        obtain ⟨_, _, ⟨T372, L372, k372, n372⟩, -, X372, hS372, hg372, ⟨Lc372, hQ372, l372, y372, z372⟩, st372⟩ := callSS X160 hx (y := mn1) hown (mvT hZ (own_w hw 30 rfl)) (mvT hZ (own_w hw 31 rfl)) (mvT hZ (own_w hw 32 rfl)) (mvT hZ (own_w hw 33 rfl)) (by decide) (backOfS (W := 0) (rmReq l Z a0 hw [] b131 nw__160 k_w_160 z_w_160 vs_w_160 h160 n0 f374 qx160_0 f373 g160_0 g160_2) hZ (own_w hw 33 rfl) (own_w hw 32 rfl) (by decide) (by decide)) (g := (mkF m 164 #[lvI p0_, lvI p1_, lvI p2_, lvI ch0, lvI ch1, lvI ch2, lvI ch3, lvR b10, lvR b40, lvR b81, lvR b131, lvI (p2_ &&& (3 : Int32)), lvR b131, .unset] [(.ref b131)])) rfl (by rw [hml]; rfl) (argsL := [(.ref b131)]) (rest := []) (lenOf pd_11 rfl) rfl (by show 2 * 0 + _ ≤ _; exact Nat.le_of_eq rfl) (hb hby at_164) (fun _ _ => ⟨rfl, e160, (by decide : 16 + 2 ≤ _), (by decide : 56 + 40 ≤ _)⟩)
        dsimp only [Pt.U, Pt.locs, Pt.cells, Pt.slots] at X372 l372 y372 z372 st372 hQ372
        subst l372 y372 z372
        obtain ⟨h372, e372⟩ : ∃ z, T372.heap = z := ⟨_, rfl⟩
        rw [e372] at hQ372
        obtain ⟨rfl, N372q, K372⟩ := hQ372
        have N375 := Fr.app N182 N372q
        have pre376 : ∀ t, own_S p e below m T372 181 #[lvI p0_, lvI p1_, lvI p2_, lvI ch0, lvI ch1, lvI ch2, lvI ch3, lvR b10, lvR b40, lvR b81, lvR b131, lvI (p2_ &&& (3 : Int32)), lvR b131, lvR b131] [(.int (1 : Int32))] t → G t := by
          intro t kt
          refine pre338 t ?_
          show own_S p e below m T160 148 #[lvI p0_, lvI p1_, lvI p2_, lvI ch0, lvI ch1, lvI ch2, lvI ch3, lvR b10, lvR b40, lvR b81, lvR b131, lvI (p2_ &&& (3 : Int32)), .unset, .unset] [(.int (2 : Int32)), (.int (p2_ &&& (3 : Int32)))] _
          refine XS.icmpYes X160.here hx rfl (pc0 := 148) (pc' := 158) rfl (hb hby at_148) rfl (feq hc339).2 (by decide) (by decide) ?_
          refine XS.aload X160.here hx rfl (hb hby at_158) rfl rfl ?_
          refine XS.astore X160.here hx rfl (hb hby at_160) rfl rfl (l' := #[lvI p0_, lvI p1_, lvI p2_, lvI ch0, lvI ch1, lvI ch2, lvI ch3, lvR b10, lvR b40, lvR b81, lvR b131, lvI (p2_ &&& (3 : Int32)), lvR b131, .unset]) rfl ?_
          refine XS.aload X160.here hx rfl (hb hby at_162) rfl rfl ?_
          show own_S p e below m T160 164 #[lvI p0_, lvI p1_, lvI p2_, lvI ch0, lvI ch1, lvI ch2, lvI ch3, lvR b10, lvR b40, lvR b81, lvR b131, lvI (p2_ &&& (3 : Int32)), lvR b131, .unset] [(.ref b131)] _
          refine st372.trans ?_
          refine XS.astore X372.here hx rfl (hb hby at_167) rfl rfl (l' := #[lvI p0_, lvI p1_, lvI p2_, lvI ch0, lvI ch1, lvI ch2, lvI ch3, lvR b10, lvR b40, lvR b81, lvR b131, lvI (p2_ &&& (3 : Int32)), lvR b131, lvR b131]) rfl ?_
          refine XS.aload X372.here hx rfl (hb hby at_169) rfl rfl ?_
          refine XS.aload X372.here hx rfl (hb hby at_171) rfl rfl ?_
          show own_S p e below m T372 173 #[lvI p0_, lvI p1_, lvI p2_, lvI ch0, lvI ch1, lvI ch2, lvI ch3, lvR b10, lvR b40, lvR b81, lvR b131, lvI (p2_ &&& (3 : Int32)), lvR b131, lvR b131] [(.ref b131), (.ref b131)] _
          refine Jvm.RoadKit.acmp (g := (mkF m 173 #[lvI p0_, lvI p1_, lvI p2_, lvI ch0, lvI ch1, lvI ch2, lvI ch3, lvR b10, lvR b40, lvR b81, lvR b131, lvI (p2_ &&& (3 : Int32)), lvR b131, lvR b131] [(.ref b131), (.ref b131)])) X372 hx rfl rfl rfl (pc0 := 173) (pc' := 176) (same := true) rfl (hb hby at_173) rfl (decide_eq_true rfl) (by decide) (by decide) ?_
          refine XS.iconst X372.here hx rfl (hb hby at_176) ?_
          refine XS.goto X372.here hx rfl (pc0 := 177) (pc' := 181) rfl (hb hby at_177) (by decide) (by decide) ?_
          exact kt
        obtain ⟨fs, hr, hrun, hended, hEnd⟩ := X372.leaveW hS372 (Nat.le_refl _) (v := some (.int (1 : Int32))) (fun h => by rw [Bd.returns] at h; cases h)
        refine ⟨_, _, hG _ (pre376 _ (retN X372 hx (t := .boolean) Bd.returns (by simp) (hb hby at_181) hr)), hrun, hended, _, _, rfl, ?_, ⟨hEnd.1, hEnd.2.1, hEnd.2.2.1, hEnd.2.2.2.mono (by decide) (by decide)⟩⟩
        show QLaw Z p0_ p1_ p2_ w_COMPACT_STRINGS h0 n0 _ T372.heap _
        rw [e372]
        exact ⟨rfl, N375⟩
set_option maxRecDepth 65536 in
set_option maxHeartbeats 40000000 in
theorem comes_1 {Post : Tables → Env → Array Value → State → Outcome → State → Prop} (hpost : ∀ tb e args s v u, (limb_1_1.after args s (.returned v) u = true ∧ limb_1_2.after args s (.returned v) u = true ∧ True) → ReturnedEndW s (.returned v) u (Jvm.fieldLocs frame_1_writes args s ++ Jvm.arrayLocs frame_1_arrays args s ++ Jvm.staticLocs frame_1_statics s) 48 1216 → Post tb e args s (.returned v) u) :
    ArmFor flags0 classFile x code maxLocals ret World_1 tables_1 room_1 Calls_1 rest_1 Pre_1 Post := by
  intro l hfl _ _ p e ha hc hk s m args below hf hA hF happ hP
  obtain ⟨hcalls, hrest, hpre⟩ := hP
  obtain ⟨-, -, -, hnamed, -, -, -, hat⟩ := (Spec.applies_iff hf).mp happ
  obtain ⟨hg, hn⟩ := and_e (Cond.before_iff.mp (show (Jvm.Cond.and given_1 narrow_1).before args s = true from hpre))
  obtain ⟨g1, g2⟩ := and_e hg
  obtain ⟨g3, g4⟩ := and_e g2
  obtain ⟨g5, g6⟩ := and_e g4
  obtain ⟨w0, w1, w2, rfl⟩ : ∃ w0 w1 w2 : Value, args = #[w0, w1, w2] := by
    have hs : args.size = 3 := by simpa [Cond.value, given_1] using g1
    obtain ⟨L⟩ := args
    match L, hs with
    | [w0, w1, w2], _ => exact ⟨w0, w1, w2, rfl⟩
  have hw := fun d (hd : d ∈ tables_1) => atoms_spec (ws := Jvm.Cond.code x code maxLocals ret :: tables_1) hat d (List.mem_cons_of_mem _ hd)
  have hfit : Fit s := fun {y c} hc i hi => by
    obtain ⟨ha, rfl⟩ := Array.getElem?_eq_some_iff.mp hc
    have q := List.all_eq_true.mp ((Array.all_eq_true_iff_forall_mem.mp hF) _ (Array.getElem_mem ha)) i (List.mem_range.mpr hi)
    simpa [Array.getElem?_eq_getElem hi] using q
  obtain ⟨i0, ei0⟩ := is_v g3
  obtain rfl : w0 = (.int i0) := Option.some.inj ei0
  obtain ⟨i1, ei1⟩ := is_v g5
  obtain rfl : w1 = (.int i1) := Option.some.inj ei1
  obtain ⟨i2, ei2⟩ := is_v g6
  obtain rfl : w2 = (.int i2) := Option.some.inj ei2
  have hr0 := Cond.before_iff.mp (show rest_1_c.before _ s = true from hrest)
  obtain ⟨g7, g8⟩ := and_e hr0
  obtain ⟨g9, g10⟩ := and_e g8
  obtain ⟨g11, g12⟩ := and_e g10
  obtain ⟨g13, g14⟩ := and_e g12
  obtain ⟨g15, g16⟩ := and_e g14
  obtain ⟨g17, g18⟩ := and_e g16
  obtain ⟨g19, g20⟩ := and_e g18
  obtain ⟨g21, g22⟩ := and_e g20
  obtain ⟨g23, g24⟩ := and_e g22
  obtain ⟨g25, g26⟩ := and_e g24
  obtain ⟨g27, g28⟩ := and_e g26
  obtain ⟨g29, g30⟩ := and_e g28
  obtain ⟨g31, g32⟩ := and_e g30
  obtain ⟨g33, g34⟩ := and_e g32
  obtain ⟨g35, g36⟩ := and_e g34
  obtain ⟨g37, g38⟩ := and_e g36
  obtain ⟨g39, g40⟩ := and_e g38
  obtain ⟨g41, g42⟩ := and_e g40
  obtain ⟨g43, g44⟩ := and_e g42
  obtain ⟨w_COMPACT_STRINGS, ev_w_COMPACT_STRINGS⟩ := is_v g9
  have S_w_COMPACT_STRINGS := Sta.start ev_w_COMPACT_STRINGS (Or.inl (Cond.before_iff.mpr g7))
  have S__assertionsDisabled := Sta.start (own_eqi g31) (Or.inl (Cond.before_iff.mpr g29))
  have S_HI_BYTE_SHIFT := Sta.start (own_eqi g37) (Or.inl (Cond.before_iff.mpr g35))
  have S_LO_BYTE_SHIFT := Sta.start (own_eqi g43) (Or.inl (Cond.before_iff.mpr g41))
  obtain ⟨n, o, h1, h2, h3, _, L, rfl, ⟨rfl, N⟩, hq⟩ := rmLaw l s _ hw tables_1 i0 i1 i2 w_COMPACT_STRINGS s.heap s.heap.size (Old.start s) (own_nei g11 ev_w_COMPACT_STRINGS) S_w_COMPACT_STRINGS S__assertionsDisabled S_HI_BYTE_SHIFT S_LO_BYTE_SHIFT p e ha hc hk s m _ below hf ((Spec.applies_iff_loose hf).mp happ).1 ⟨rfl, State.Warmed39.refl s, rfl⟩ trivial
  refine ⟨n, _, h1, h2, h3, hpost _ _ _ _ _ _ ⟨Cond.after_iff.mpr rfl, Cond.after_iff.mpr (eq_i res_at (Term.int_eval (1)) rfl), trivial⟩ ⟨hq.1, hq.2.1, hq.2.2.1, (hq.2.2.2.sift fun y hy => Or.inr (N y hy)).mono (by decide) (by decide)⟩⟩
theorem main_1_1 : Claimed_1_1 := comes_1 fun _ _ _ _ _ _ h hF => ⟨h.1, hF⟩
theorem main_1_2 : Claimed_1_2 := comes_1 fun _ _ _ _ _ _ h hF => ⟨h.2.1, hF⟩
end Jvm.Pilot.@@N@@
namespace Jvm.Pilot.@@N@@
open Jvm Jvm.ClassFile Sem Op Lib Jvm.Free Jvm.Stand Jvm.Pilot.@@N@@.Jvm.D
/-! MADE BY PROGRAM (witnessworld.py) out of the Statement's table words and the real class files: 21 classes; the members and pool entries that the words name. The judged class is class 1, her method 1. -/
namespace start1
open Jvm.ClassFile
def u (s : String) : CpInfo := .utf8 (stringToUtf16 s)
/-- a pool by its gaps: so many unusable entries, then the entry; so many at the end -/
def gap : Nat → List CpInfo → List CpInfo
  | 0, r => r
  | n + 1, r => .unusable :: gap n r
def poolList (es : List (Nat × CpInfo)) (last : Nat) : List CpInfo := es.foldr (fun e r => gap e.1 (e.2 :: r)) (gap last [])
def pool (es : List (Nat × CpInfo)) (last : Nat) : Array CpInfo := ⟨poolList es last⟩
def fileOf (pool : Array CpInfo) (this : Nat) (attrs : Array Attribute := #[]) (ms : Array MethodInfo := #[]) (fl : Nat := 33) (sup : Nat := 0) (ifs : Array Nat := #[]) (fds : Array FieldInfo := #[]) : ClassFile where
  minorVersion := 0
  majorVersion := 65
  constantPool := pool
  accessFlags := fl
  thisClass := this
  superClass := sup
  interfaces := ifs
  fields := fds
  methods := ms
  attributes := attrs
def plain (name : String) (sup : Option ClassId) : Class where
  name := name
  kind := .ordinary
  loader := none
  accessFlags := 33
  super := sup
  interfaces := #[]
  cf := none
  fields := #[]
  methods := #[]
  instanceTypes := #[]
  staticTypes := #[]
  resolved := #[]
  callSites := []
  init := .initialized
  statics := none
  mirror := none

def pool0 : Array CpInfo := pool [(5, u "<init>"), (0, u "()V"), (1, .class_ 10), (1, u "java/lang/Object")] 113

def k0c0 : Code := { maxStack := 0, maxLocals := 1, code := object_method_1_code, exceptionTable := #[], attributes := #[] }
def k0m0 : Method := { name := "<init>", desc := "()V", sig := { parameters := [], returnType := none }, accessFlags := 1, code := some k0c0 }
/-- java/lang/Object -/
def k0 : Class := { plain "java/lang/Object" none with
  accessFlags := 33
  interfaces := #[]
  cf := some (fileOf pool0 8 #[] #[{ accessFlags := 1, nameIndex := 5, descriptorIndex := 6, attributes := #[] }] 33 0 #[] #[])
  fields := #[]
  methods := #[k0m0]
  instanceTypes := #[]
  staticTypes := #[]
  resolved := Array.replicate 124 none
  statics := none }

def pool1 : Array CpInfo := pool [(2, .class_ 4), (1, u "java/lang/Object"), (0, u "<init>"), (0, u "()V"), (0, .class_ 8), (0, u "java/lang/String"), (0, .methodref 7 10), (0, .nameAndType 5 11), (0, u "([C)V"), (0, .methodref 13 14), (0, .class_ 15), (0, .nameAndType 16 17), (0, u "com/example/latchkey/latchkey/LockNames"), (0, u "requireKeyPrefix"), (0, u "(Ljava/lang/String;)Ljava/lang/String;"), (0, .class_ 19), (0, u "com/example/latchkey/latchkey/LockNamesRequireKeyPrefixPinLaw"), (2, u "law"), (0, u "(III)Z")] 3

def k1m0 : Method := { name := "<init>", desc := "()V", sig := { parameters := [], returnType := none }, accessFlags := 1, code := none }
def k1c1 : Code := { maxStack := 6, maxLocals := 14, code := code, exceptionTable := #[], attributes := #[] }
def k1m1 : Method := { name := "law", desc := "(III)Z", sig := { parameters := [.int, .int, .int], returnType := some .boolean }, accessFlags := 9, code := some k1c1 }
/-- com/example/latchkey/latchkey/LockNamesRequireKeyPrefixPinLaw -/
def k1 : Class := { plain "com/example/latchkey/latchkey/LockNamesRequireKeyPrefixPinLaw" (some 0) with
  accessFlags := 49
  interfaces := #[]
  cf := some (fileOf pool1 18 #[] #[{ accessFlags := 1, nameIndex := 5, descriptorIndex := 6, attributes := #[] }, { accessFlags := 9, nameIndex := 22, descriptorIndex := 23, attributes := #[] }] 49 2 #[] #[])
  fields := #[]
  methods := #[k1m0, k1m1]
  instanceTypes := #[]
  staticTypes := #[]
  resolved := Array.replicate 27 none
  statics := none }

def pool2 : Array CpInfo := pool [(1, .class_ 2), (0, u "java/io/Serializable"), (0, .class_ 4), (0, u "java/lang/Object")] 2

/-- java/io/Serializable -/
def k2 : Class := { plain "java/io/Serializable" (some 0) with
  accessFlags := 1537
  interfaces := #[]
  cf := some (fileOf pool2 1 #[] #[] 1537 3 #[] #[])
  fields := #[]
  methods := #[]
  instanceTypes := #[]
  staticTypes := #[]
  resolved := Array.replicate 7 none
  statics := none }

def pool3 : Array CpInfo := pool [(1, .class_ 2), (0, u "java/lang/Comparable"), (0, .class_ 4), (0, u "java/lang/Object")] 7

/-- java/lang/Comparable -/
def k3 : Class := { plain "java/lang/Comparable" (some 0) with
  accessFlags := 1537
  interfaces := #[]
  cf := some (fileOf pool3 1 #[] #[] 1537 3 #[] #[])
  fields := #[]
  methods := #[]
  instanceTypes := #[]
  staticTypes := #[]
  resolved := Array.replicate 12 none
  statics := none }

def pool4 : Array CpInfo := pool [(2, .class_ 4), (1, u "java/lang/CharSequence"), (42, .class_ 48), (0, u "java/lang/CharSequence$1CodePointIterator"), (10, .class_ 60), (0, u "java/lang/CharSequence$1CharIterator"), (5, .class_ 67), (0, u "java/lang/Object")] 63

/-- java/lang/CharSequence -/
def k4 : Class := { plain "java/lang/CharSequence" (some 0) with
  accessFlags := 1537
  interfaces := #[]
  cf := some (fileOf pool4 2 #[.nestMembers #[47, 59]] #[] 1537 66 #[] #[])
  fields := #[]
  methods := #[]
  instanceTypes := #[]
  staticTypes := #[]
  resolved := Array.replicate 131 none
  statics := none }

def pool5 : Array CpInfo := pool [(1, .class_ 2), (0, u "java/lang/constant/Constable"), (0, .class_ 4), (0, u "java/lang/Object")] 6

/-- java/lang/constant/Constable -/
def k5 : Class := { plain "java/lang/constant/Constable" (some 0) with
  accessFlags := 1537
  interfaces := #[]
  cf := some (fileOf pool5 1 #[] #[] 1537 3 #[] #[])
  fields := #[]
  methods := #[]
  instanceTypes := #[]
  staticTypes := #[]
  resolved := Array.replicate 11 none
  statics := none }

def pool6 : Array CpInfo := pool [(1, .class_ 2), (0, u "java/lang/constant/ConstantDesc"), (0, .class_ 4), (0, u "java/lang/Object")] 32

/-- java/lang/constant/ConstantDesc -/
def k6 : Class := { plain "java/lang/constant/ConstantDesc" (some 0) with
  accessFlags := 1537
  interfaces := #[]
  cf := some (fileOf pool6 1 #[] #[] 1537 3 #[] #[])
  fields := #[]
  methods := #[]
  instanceTypes := #[]
  staticTypes := #[]
  resolved := Array.replicate 37 none
  statics := none }

def pool7 : Array CpInfo := pool [(1, .methodref 2 3), (0, .class_ 4), (0, .nameAndType 5 6), (0, u "java/lang/Object"), (0, u "<init>"), (0, u "()V"), (2, .fieldref 10 11), (0, .class_ 12), (0, .nameAndType 13 14), (0, u "java/lang/String"), (0, u "value"), (0, u "[B"), (0, .fieldref 10 16), (0, .nameAndType 17 18), (0, u "coder"), (0, u "B"), (2, u "hash"), (0, u "I"), (2, u "hashIsZero"), (0, u "Z"), (0, .methodref 10 28), (0, .nameAndType 5 29), (0, u "([CIILjava/lang/Void;)V"), (8, .fieldref 10 39), (0, .nameAndType 40 26), (0, u "COMPACT_STRINGS"), (1, .class_ 44), (1, u "java/lang/StringUTF16"), (0, u "compress"), (1, .methodref 42 48), (0, .nameAndType 49 50), (0, u "coderFromArrayLen"), (0, u "([BI)B"), (91, u "()Z"), (34, .methodref 42 178), (0, .nameAndType 45 179), (0, u "([CII)[B"), (395, .class_ 576), (0, u "java/lang/CharSequence"), (22, u "CASE_INSENSITIVE_ORDER"), (0, u "Ljava/util/Comparator;"), (91, u "isEmpty"), (317, u "([C)V"), (90, u "serialPersistentFields"), (0, u "[Ljava/io/ObjectStreamField;"), (0, .class_ 1104), (0, u "java/lang/String$CaseInsensitiveComparator"), (1, .class_ 1107), (0, u "java/io/Serializable"), (0, .class_ 1109), (0, u "java/lang/Comparable"), (0, .class_ 1111), (0, u "java/lang/constant/Constable"), (0, .class_ 1113), (0, u "java/lang/constant/ConstantDesc"), (2, u "serialVersionUID"), (0, u "J"), (3, u "REPL"), (0, u "C"), (2, u "LATIN1"), (1, u "UTF16")] 323

def k7m0 : Method := { name := "<init>", desc := "()V", sig := { parameters := [], returnType := none }, accessFlags := 1, code := none }
def k7c1 : Code := { maxStack := 5, maxLocals := 2, code := jdk_42_method_3_code, exceptionTable := #[], attributes := #[] }
def k7m1 : Method := { name := "<init>", desc := "([C)V", sig := { parameters := [(.array .char)], returnType := none }, accessFlags := 1, code := some k7c1 }
def k7c2 : Code := { maxStack := 1, maxLocals := 1, code := jdk_42_method_55_code, exceptionTable := #[], attributes := #[] }
def k7m2 : Method := { name := "isEmpty", desc := "()Z", sig := { parameters := [], returnType := some .boolean }, accessFlags := 1, code := some k7c2 }
def k7c3 : Code := { maxStack := 4, maxLocals := 6, code := jdk_42_method_149_code, exceptionTable := #[], attributes := #[] }
def k7m3 : Method := { name := "<init>", desc := "([CIILjava/lang/Void;)V", sig := { parameters := [(.array .char), .int, .int, (.object "java/lang/Void")], returnType := none }, accessFlags := 2, code := some k7c3 }
/-- java/lang/String -/
def k7 : Class := { plain "java/lang/String" (some 0) with
  accessFlags := 49
  interfaces := #[2, 3, 4, 5, 6]
  cf := some (fileOf pool7 10 #[.nestMembers #[1103]] #[{ accessFlags := 1, nameIndex := 5, descriptorIndex := 6, attributes := #[] }, { accessFlags := 1, nameIndex := 5, descriptorIndex := 1010, attributes := #[] }, { accessFlags := 1, nameIndex := 692, descriptorIndex := 142, attributes := #[] }, { accessFlags := 2, nameIndex := 5, descriptorIndex := 29, attributes := #[] }] 49 2 #[1106, 1108, 575, 1110, 1112] #[{ accessFlags := 18, nameIndex := 13, descriptorIndex := 14, attributes := #[] }, { accessFlags := 18, nameIndex := 17, descriptorIndex := 18, attributes := #[] }, { accessFlags := 2, nameIndex := 21, descriptorIndex := 22, attributes := #[] }, { accessFlags := 2, nameIndex := 25, descriptorIndex := 26, attributes := #[] }, { accessFlags := 26, nameIndex := 1116, descriptorIndex := 1117, attributes := #[] }, { accessFlags := 24, nameIndex := 40, descriptorIndex := 26, attributes := #[] }, { accessFlags := 26, nameIndex := 1101, descriptorIndex := 1102, attributes := #[] }, { accessFlags := 26, nameIndex := 1121, descriptorIndex := 1122, attributes := #[] }, { accessFlags := 25, nameIndex := 599, descriptorIndex := 600, attributes := #[] }, { accessFlags := 24, nameIndex := 1125, descriptorIndex := 18, attributes := #[] }, { accessFlags := 24, nameIndex := 1127, descriptorIndex := 18, attributes := #[] }])
  fields := #[{ name := "value", type := (.array .byte), accessFlags := 18, slot := 0, constantValue := 0 }, { name := "coder", type := .byte, accessFlags := 18, slot := 1, constantValue := 0 }, { name := "hash", type := .int, accessFlags := 2, slot := 2, constantValue := 0 }, { name := "hashIsZero", type := .boolean, accessFlags := 2, slot := 3, constantValue := 0 }, { name := "serialVersionUID", type := .long, accessFlags := 26, slot := 0, constantValue := 0 }, { name := "COMPACT_STRINGS", type := .boolean, accessFlags := 24, slot := 1, constantValue := 0 }, { name := "serialPersistentFields", type := (.array (.object "java/io/ObjectStreamField")), accessFlags := 26, slot := 2, constantValue := 0 }, { name := "REPL", type := .char, accessFlags := 26, slot := 3, constantValue := 0 }, { name := "CASE_INSENSITIVE_ORDER", type := (.object "java/util/Comparator"), accessFlags := 25, slot := 4, constantValue := 0 }, { name := "LATIN1", type := .byte, accessFlags := 24, slot := 5, constantValue := 0 }, { name := "UTF16", type := .byte, accessFlags := 24, slot := 6, constantValue := 0 }]
  methods := #[k7m0, k7m1, k7m2, k7m3]
  instanceTypes := #[(.array .byte), .byte, .int, .boolean]
  staticTypes := #[.long, .boolean, (.array (.object "java/io/ObjectStreamField")), .char, (.object "java/util/Comparator"), .byte, .byte]
  resolved := Array.replicate 1451 none
  statics := some 0 }

def pool8 : Array CpInfo := pool [(6, .class_ 8), (1, u "java/lang/Object"), (0, u "<init>"), (0, u "()V"), (0, .methodref 12 13), (0, .class_ 14), (0, .nameAndType 15 16), (0, u "java/lang/StringUTF16"), (0, u "newBytesLength"), (0, u "(I)I"), (3, .integer 1073741823), (23, .fieldref 12 45), (0, .nameAndType 46 47), (0, u "$assertionsDisabled"), (0, u "Z"), (11, .fieldref 12 60), (0, .nameAndType 61 62), (0, u "HI_BYTE_SHIFT"), (0, u "I"), (0, .fieldref 12 64), (0, .nameAndType 65 62), (0, u "LO_BYTE_SHIFT"), (5, .methodref 12 72), (0, .nameAndType 73 74), (0, u "getChar"), (0, u "([BI)C"), (32, .methodref 12 108), (0, .nameAndType 109 110), (0, u "newBytesFor"), (0, u "(I)[B"), (0, .methodref 12 112), (0, .nameAndType 113 114), (0, u "putChar"), (0, u "([BII)V"), (0, .methodref 12 116), (0, .nameAndType 117 118), (0, u "compress"), (0, u "([CI[BII)I"), (0, .methodref 12 120), (0, .nameAndType 121 122), (0, u "toBytes"), (0, u "([CII)[B"), (138, u "coderFromArrayLen"), (0, u "([BI)B"), (106, .class_ 371), (1, u "java/lang/StringUTF16$LinesSpliterator"), (58, u "MAX_LENGTH"), (196, .class_ 628), (0, u "java/lang/StringUTF16$CodePointsSpliterator"), (0, .class_ 630), (0, u "java/lang/StringUTF16$CharsSpliterator")] 4

def k8m0 : Method := { name := "<init>", desc := "()V", sig := { parameters := [], returnType := none }, accessFlags := 0, code := none }
def k8c1 : Code := { maxStack := 1, maxLocals := 1, code := jdk_52_method_2_code, exceptionTable := #[], attributes := #[] }
def k8m1 : Method := { name := "newBytesFor", desc := "(I)[B", sig := { parameters := [.int], returnType := some (.array .byte) }, accessFlags := 9, code := some k8c1 }
def k8c2 : Code := { maxStack := 4, maxLocals := 1, code := jdk_52_method_3_code, exceptionTable := #[], attributes := #[] }
def k8m2 : Method := { name := "newBytesLength", desc := "(I)I", sig := { parameters := [.int], returnType := some .int }, accessFlags := 9, code := some k8c2 }
def k8c3 : Code := { maxStack := 4, maxLocals := 3, code := jdk_52_method_4_code, exceptionTable := #[], attributes := #[] }
def k8m3 : Method := { name := "putChar", desc := "([BII)V", sig := { parameters := [(.array .byte), .int, .int], returnType := none }, accessFlags := 8, code := some k8c3 }
def k8c4 : Code := { maxStack := 3, maxLocals := 2, code := jdk_52_method_5_code, exceptionTable := #[], attributes := #[] }
def k8m4 : Method := { name := "getChar", desc := "([BI)C", sig := { parameters := [(.array .byte), .int], returnType := some .char }, accessFlags := 8, code := some k8c4 }
def k8c5 : Code := { maxStack := 4, maxLocals := 5, code := jdk_52_method_14_code, exceptionTable := #[], attributes := #[] }
def k8m5 : Method := { name := "toBytes", desc := "([CII)[B", sig := { parameters := [(.array .char), .int, .int], returnType := some (.array .byte) }, accessFlags := 9, code := some k8c5 }
def k8c6 : Code := { maxStack := 2, maxLocals := 2, code := jdk_52_method_15_code, exceptionTable := #[], attributes := #[] }
def k8m6 : Method := { name := "coderFromArrayLen", desc := "([BI)B", sig := { parameters := [(.array .byte), .int], returnType := some .byte }, accessFlags := 8, code := some k8c6 }
def k8c7 : Code := { maxStack := 5, maxLocals := 6, code := jdk_52_method_16_code, exceptionTable := #[], attributes := #[] }
def k8m7 : Method := { name := "compress", desc := "([CII)[B", sig := { parameters := [(.array .char), .int, .int], returnType := some (.array .byte) }, accessFlags := 9, code := some k8c7 }
def k8c8 : Code := { maxStack := 3, maxLocals := 7, code := jdk_52_method_21_code, exceptionTable := #[], attributes := #[] }
def k8m8 : Method := { name := "compress", desc := "([CI[BII)I", sig := { parameters := [(.array .char), .int, (.array .byte), .int, .int], returnType := some .int }, accessFlags := 9, code := some k8c8 }
/-- java/lang/StringUTF16 -/
def k8 : Class := { plain "java/lang/StringUTF16" (some 0) with
  accessFlags := 48
  interfaces := #[]
  cf := some (fileOf pool8 12 #[.nestMembers #[627, 629, 369]] #[{ accessFlags := 0, nameIndex := 9, descriptorIndex := 10, attributes := #[] }, { accessFlags := 9, nameIndex := 109, descriptorIndex := 110, attributes := #[] }, { accessFlags := 9, nameIndex := 15, descriptorIndex := 16, attributes := #[] }, { accessFlags := 8, nameIndex := 113, descriptorIndex := 114, attributes := #[] }, { accessFlags := 8, nameIndex := 73, descriptorIndex := 74, attributes := #[] }, { accessFlags := 9, nameIndex := 121, descriptorIndex := 122, attributes := #[] }, { accessFlags := 8, nameIndex := 261, descriptorIndex := 262, attributes := #[] }, { accessFlags := 9, nameIndex := 117, descriptorIndex := 122, attributes := #[] }, { accessFlags := 9, nameIndex := 117, descriptorIndex := 118, attributes := #[] }] 48 6 #[] #[{ accessFlags := 26, nameIndex := 61, descriptorIndex := 62, attributes := #[] }, { accessFlags := 26, nameIndex := 65, descriptorIndex := 62, attributes := #[] }, { accessFlags := 24, nameIndex := 430, descriptorIndex := 62, attributes := #[] }, { accessFlags := 4120, nameIndex := 46, descriptorIndex := 47, attributes := #[] }])
  fields := #[{ name := "HI_BYTE_SHIFT", type := .int, accessFlags := 26, slot := 0, constantValue := 0 }, { name := "LO_BYTE_SHIFT", type := .int, accessFlags := 26, slot := 1, constantValue := 0 }, { name := "MAX_LENGTH", type := .int, accessFlags := 24, slot := 2, constantValue := 0 }, { name := "$assertionsDisabled", type := .boolean, accessFlags := 4120, slot := 3, constantValue := 0 }]
  methods := #[k8m0, k8m1, k8m2, k8m3, k8m4, k8m5, k8m6, k8m7, k8m8]
  instanceTypes := #[]
  staticTypes := #[.int, .int, .int, .boolean]
  resolved := Array.replicate 635 none
  statics := some 1 }

def pool9 : Array CpInfo := pool [(2, .class_ 4), (1, u "java/lang/Object"), (0, u "<init>"), (0, u "()V"), (3, .class_ 12), (1, u "com/example/latchkey/latchkey/LockNames"), (7, u "(Ljava/lang/String;)Ljava/lang/String;"), (3, .methodref 25 26), (0, .class_ 27), (0, .nameAndType 28 29), (0, u "java/lang/String"), (0, u "isEmpty"), (0, u "()Z"), (8, .string 39), (0, u "keyPrefix"), (0, .methodref 41 42), (0, .class_ 43), (0, .nameAndType 44 45), (0, u "java/util/Objects"), (0, u "requireNonNull"), (0, u "(Ljava/lang/Object;Ljava/lang/String;)Ljava/lang/Object;"), (24, u "MAX_LENGTH"), (0, u "I"), (2, u "DEFAULT_KEY_PREFIX"), (0, u "Ljava/lang/String;"), (6, u "requireKeyPrefix")] 23

def k9m0 : Method := { name := "<init>", desc := "()V", sig := { parameters := [], returnType := none }, accessFlags := 2, code := none }
def k9c1 : Code := { maxStack := 3, maxLocals := 1, code := prog_19_method_5_code, exceptionTable := #[], attributes := #[] }
def k9m1 : Method := { name := "requireKeyPrefix", desc := "(Ljava/lang/String;)Ljava/lang/String;", sig := { parameters := [(.object "java/lang/String")], returnType := some (.object "java/lang/String") }, accessFlags := 8, code := some k9c1 }
/-- com/example/latchkey/latchkey/LockNames -/
def k9 : Class := { plain "com/example/latchkey/latchkey/LockNames" (some 0) with
  accessFlags := 48
  interfaces := #[]
  cf := some (fileOf pool9 10 #[] #[{ accessFlags := 2, nameIndex := 5, descriptorIndex := 6, attributes := #[] }, { accessFlags := 8, nameIndex := 82, descriptorIndex := 20, attributes := #[] }] 48 2 #[] #[{ accessFlags := 24, nameIndex := 70, descriptorIndex := 71, attributes := #[] }, { accessFlags := 24, nameIndex := 74, descriptorIndex := 75, attributes := #[] }])
  fields := #[{ name := "MAX_LENGTH", type := .int, accessFlags := 24, slot := 0, constantValue := 0 }, { name := "DEFAULT_KEY_PREFIX", type := (.object "java/lang/String"), accessFlags := 24, slot := 1, constantValue := 0 }]
  methods := #[k9m0, k9m1]
  instanceTypes := #[]
  staticTypes := #[.int, (.object "java/lang/String")]
  resolved := Array.replicate 106 none
  statics := none }

def pool10 : Array CpInfo := pool [(2, .class_ 4), (1, u "java/lang/Object"), (0, u "<init>"), (0, u "()V"), (35, .class_ 44), (1, u "java/util/Objects"), (0, u "requireNonNull"), (48, u "(Ljava/lang/Object;Ljava/lang/String;)Ljava/lang/Object;")] 89

def k10m0 : Method := { name := "<init>", desc := "()V", sig := { parameters := [], returnType := none }, accessFlags := 2, code := none }
def k10c1 : Code := { maxStack := 3, maxLocals := 2, code := jdk_31_method_11_code, exceptionTable := #[], attributes := #[] }
def k10m1 : Method := { name := "requireNonNull", desc := "(Ljava/lang/Object;Ljava/lang/String;)Ljava/lang/Object;", sig := { parameters := [(.object "java/lang/Object"), (.object "java/lang/String")], returnType := some (.object "java/lang/Object") }, accessFlags := 9, code := some k10c1 }
/-- java/util/Objects -/
def k10 : Class := { plain "java/util/Objects" (some 0) with
  accessFlags := 49
  interfaces := #[]
  cf := some (fileOf pool10 42 #[] #[{ accessFlags := 2, nameIndex := 5, descriptorIndex := 6, attributes := #[] }, { accessFlags := 9, nameIndex := 45, descriptorIndex := 94, attributes := #[] }] 49 2 #[] #[])
  fields := #[]
  methods := #[k10m0, k10m1]
  instanceTypes := #[]
  staticTypes := #[]
  resolved := Array.replicate 184 none
  statics := none }

def pool11 : Array CpInfo := pool [(4, .class_ 6), (1, u "java/lang/Object"), (0, u "<init>"), (0, u "()V"), (5, .class_ 16), (1, u "java/lang/StringLatin1"), (104, u "$assertionsDisabled"), (0, u "Z"), (98, .class_ 223), (1, u "java/lang/StringLatin1$LinesSpliterator"), (166, .class_ 391), (0, u "java/lang/StringLatin1$CharsSpliterator")] 3

def k11m0 : Method := { name := "<init>", desc := "()V", sig := { parameters := [], returnType := none }, accessFlags := 0, code := none }
/-- java/lang/StringLatin1 -/
def k11 : Class := { plain "java/lang/StringLatin1" (some 0) with
  accessFlags := 48
  interfaces := #[]
  cf := some (fileOf pool11 14 #[.nestMembers #[390, 221]] #[{ accessFlags := 0, nameIndex := 7, descriptorIndex := 8, attributes := #[] }] 48 4 #[] #[{ accessFlags := 4120, nameIndex := 121, descriptorIndex := 122, attributes := #[] }])
  fields := #[{ name := "$assertionsDisabled", type := .boolean, accessFlags := 4120, slot := 0, constantValue := 0 }]
  methods := #[k11m0]
  instanceTypes := #[]
  staticTypes := #[.boolean]
  resolved := Array.replicate 395 none
  statics := none }

def pool12 : Array CpInfo := pool [(2, .class_ 4), (1, u "java/lang/Object"), (0, u "<init>"), (0, u "()V"), (17, .class_ 26), (1, u "jdk/internal/util/Preconditions"), (28, .class_ 56), (0, u "jdk/internal/util/Preconditions$4"), (57, .class_ 115), (0, u "jdk/internal/util/Preconditions$1"), (7, u "SIOOBE_FORMATTER"), (0, u "Ljava/util/function/BiFunction;"), (0, .class_ 126), (0, u "jdk/internal/util/Preconditions$2"), (3, u "AIOOBE_FORMATTER"), (0, .class_ 132), (0, u "jdk/internal/util/Preconditions$3"), (3, u "IOOBE_FORMATTER")] 57

def k12m0 : Method := { name := "<init>", desc := "()V", sig := { parameters := [], returnType := none }, accessFlags := 1, code := none }
/-- jdk/internal/util/Preconditions -/
def k12 : Class := { plain "jdk/internal/util/Preconditions" (some 0) with
  accessFlags := 33
  interfaces := #[]
  cf := some (fileOf pool12 24 #[.nestMembers #[55, 131, 125, 114]] #[{ accessFlags := 1, nameIndex := 5, descriptorIndex := 6, attributes := #[] }] 33 2 #[] #[{ accessFlags := 25, nameIndex := 123, descriptorIndex := 124, attributes := #[] }, { accessFlags := 25, nameIndex := 130, descriptorIndex := 124, attributes := #[] }, { accessFlags := 25, nameIndex := 136, descriptorIndex := 124, attributes := #[] }])
  fields := #[{ name := "SIOOBE_FORMATTER", type := (.object "java/util/function/BiFunction"), accessFlags := 25, slot := 0, constantValue := 0 }, { name := "AIOOBE_FORMATTER", type := (.object "java/util/function/BiFunction"), accessFlags := 25, slot := 1, constantValue := 0 }, { name := "IOOBE_FORMATTER", type := (.object "java/util/function/BiFunction"), accessFlags := 25, slot := 2, constantValue := 0 }]
  methods := #[k12m0]
  instanceTypes := #[]
  staticTypes := #[(.object "java/util/function/BiFunction"), (.object "java/util/function/BiFunction"), (.object "java/util/function/BiFunction")]
  resolved := Array.replicate 194 none
  statics := some 2 }

def pool13 : Array CpInfo := pool [(9, u "<init>"), (6, .class_ 18), (1, u "java/lang/Object"), (0, u "()V"), (1, .class_ 23), (1, u "jdk/internal/util/ArraysSupport"), (0, u "LOG2_ARRAY_LONG_INDEX_SCALE"), (0, u "I"), (2, u "U"), (0, u "Ljdk/internal/misc/Unsafe;"), (8, u "BIG_ENDIAN"), (0, u "Z"), (8, u "LOG2_BYTE_BIT_SIZE"), (4, u "LOG2_ARRAY_INT_INDEX_SCALE"), (54, u "JLA"), (0, u "Ljdk/internal/access/JavaLangAccess;"), (11, u "LOG2_ARRAY_BOOLEAN_INDEX_SCALE"), (9, u "LOG2_ARRAY_BYTE_INDEX_SCALE"), (5, u "LOG2_ARRAY_CHAR_INDEX_SCALE"), (5, u "LOG2_ARRAY_SHORT_INDEX_SCALE"), (18, u "LOG2_ARRAY_FLOAT_INDEX_SCALE"), (24, u "LOG2_ARRAY_DOUBLE_INDEX_SCALE"), (89, u "T_BOOLEAN"), (2, u "T_CHAR"), (1, u "T_FLOAT"), (1, u "T_DOUBLE"), (1, u "T_BYTE"), (1, u "T_SHORT"), (1, u "T_INT"), (1, u "T_LONG"), (1, u "SOFT_MAX_ARRAY_LENGTH")] 83

def k13m0 : Method := { name := "<init>", desc := "()V", sig := { parameters := [], returnType := none }, accessFlags := 2, code := none }
/-- jdk/internal/util/ArraysSupport -/
def k13 : Class := { plain "jdk/internal/util/ArraysSupport" (some 0) with
  accessFlags := 33
  interfaces := #[]
  cf := some (fileOf pool13 21 #[] #[{ accessFlags := 2, nameIndex := 9, descriptorIndex := 19, attributes := #[] }] 33 16 #[] #[{ accessFlags := 24, nameIndex := 28, descriptorIndex := 29, attributes := #[] }, { accessFlags := 26, nameIndex := 38, descriptorIndex := 39, attributes := #[] }, { accessFlags := 25, nameIndex := 121, descriptorIndex := 25, attributes := #[] }, { accessFlags := 25, nameIndex := 131, descriptorIndex := 25, attributes := #[] }, { accessFlags := 25, nameIndex := 137, descriptorIndex := 25, attributes := #[] }, { accessFlags := 25, nameIndex := 143, descriptorIndex := 25, attributes := #[] }, { accessFlags := 25, nameIndex := 53, descriptorIndex := 25, attributes := #[] }, { accessFlags := 25, nameIndex := 24, descriptorIndex := 25, attributes := #[] }, { accessFlags := 25, nameIndex := 162, descriptorIndex := 25, attributes := #[] }, { accessFlags := 25, nameIndex := 187, descriptorIndex := 25, attributes := #[] }, { accessFlags := 26, nameIndex := 48, descriptorIndex := 25, attributes := #[] }, { accessFlags := 25, nameIndex := 277, descriptorIndex := 25, attributes := #[] }, { accessFlags := 25, nameIndex := 280, descriptorIndex := 25, attributes := #[] }, { accessFlags := 25, nameIndex := 282, descriptorIndex := 25, attributes := #[] }, { accessFlags := 25, nameIndex := 284, descriptorIndex := 25, attributes := #[] }, { accessFlags := 25, nameIndex := 286, descriptorIndex := 25, attributes := #[] }, { accessFlags := 25, nameIndex := 288, descriptorIndex := 25, attributes := #[] }, { accessFlags := 25, nameIndex := 290, descriptorIndex := 25, attributes := #[] }, { accessFlags := 25, nameIndex := 292, descriptorIndex := 25, attributes := #[] }, { accessFlags := 26, nameIndex := 108, descriptorIndex := 109, attributes := #[] }, { accessFlags := 25, nameIndex := 294, descriptorIndex := 25, attributes := #[] }])
  fields := #[{ name := "U", type := (.object "jdk/internal/misc/Unsafe"), accessFlags := 24, slot := 0, constantValue := 0 }, { name := "BIG_ENDIAN", type := .boolean, accessFlags := 26, slot := 1, constantValue := 0 }, { name := "LOG2_ARRAY_BOOLEAN_INDEX_SCALE", type := .int, accessFlags := 25, slot := 2, constantValue := 0 }, { name := "LOG2_ARRAY_BYTE_INDEX_SCALE", type := .int, accessFlags := 25, slot := 3, constantValue := 0 }, { name := "LOG2_ARRAY_CHAR_INDEX_SCALE", type := .int, accessFlags := 25, slot := 4, constantValue := 0 }, { name := "LOG2_ARRAY_SHORT_INDEX_SCALE", type := .int, accessFlags := 25, slot := 5, constantValue := 0 }, { name := "LOG2_ARRAY_INT_INDEX_SCALE", type := .int, accessFlags := 25, slot := 6, constantValue := 0 }, { name := "LOG2_ARRAY_LONG_INDEX_SCALE", type := .int, accessFlags := 25, slot := 7, constantValue := 0 }, { name := "LOG2_ARRAY_FLOAT_INDEX_SCALE", type := .int, accessFlags := 25, slot := 8, constantValue := 0 }, { name := "LOG2_ARRAY_DOUBLE_INDEX_SCALE", type := .int, accessFlags := 25, slot := 9, constantValue := 0 }, { name := "LOG2_BYTE_BIT_SIZE", type := .int, accessFlags := 26, slot := 10, constantValue := 0 }, { name := "T_BOOLEAN", type := .int, accessFlags := 25, slot := 11, constantValue := 0 }, { name := "T_CHAR", type := .int, accessFlags := 25, slot := 12, constantValue := 0 }, { name := "T_FLOAT", type := .int, accessFlags := 25, slot := 13, constantValue := 0 }, { name := "T_DOUBLE", type := .int, accessFlags := 25, slot := 14, constantValue := 0 }, { name := "T_BYTE", type := .int, accessFlags := 25, slot := 15, constantValue := 0 }, { name := "T_SHORT", type := .int, accessFlags := 25, slot := 16, constantValue := 0 }, { name := "T_INT", type := .int, accessFlags := 25, slot := 17, constantValue := 0 }, { name := "T_LONG", type := .int, accessFlags := 25, slot := 18, constantValue := 0 }, { name := "JLA", type := (.object "jdk/internal/access/JavaLangAccess"), accessFlags := 26, slot := 19, constantValue := 0 }, { name := "SOFT_MAX_ARRAY_LENGTH", type := .int, accessFlags := 25, slot := 20, constantValue := 0 }]
  methods := #[k13m0]
  instanceTypes := #[]
  staticTypes := #[(.object "jdk/internal/misc/Unsafe"), .boolean, .int, .int, .int, .int, .int, .int, .int, .int, .int, .int, .int, .int, .int, .int, .int, .int, .int, (.object "jdk/internal/access/JavaLangAccess"), .int]
  resolved := Array.replicate 378 none
  statics := none }

def pool14 : Array CpInfo := pool [(1, u "java/lang/Cloneable"), (0, .class_ 1), (0, u "java/lang/Object"), (0, .class_ 3)] 3

/-- java/lang/Cloneable -/
def k14 : Class := { plain "java/lang/Cloneable" (some 0) with
  accessFlags := 1537
  interfaces := #[]
  cf := some (fileOf pool14 2 #[] #[] 1537 4 #[] #[])
  fields := #[]
  methods := #[]
  instanceTypes := #[]
  staticTypes := #[]
  resolved := Array.replicate 8 none
  statics := none }

/-- the primitive byte -/
def k15 : Class := { plain "byte" none with kind := .primitive 'B', accessFlags := 0x411 }
/-- [B -/
def k16 : Class := { plain "[B" (some 0) with kind := .array 15 .byte, interfaces := #[14, 2], accessFlags := 1041 }

/-- the primitive char -/
def k17 : Class := { plain "char" none with kind := .primitive 'C', accessFlags := 0x411 }
/-- [C -/
def k18 : Class := { plain "[C" (some 0) with kind := .array 17 .char, interfaces := #[14, 2], accessFlags := 1041 }

/-- the primitive int -/
def k19 : Class := { plain "int" none with kind := .primitive 'I', accessFlags := 0x411 }
/-- [I -/
def k20 : Class := { plain "[I" (some 0) with kind := .array 19 .int, interfaces := #[14, 2], accessFlags := 1041 }

def heap : Heap := #[{ cls := 7, slots := #[.long 0, .int 1, .null, .int 0, .null, .int 0, .int 0], vm := .statics 7 },
  { cls := 8, slots := #[.int 0, .int 8, .int 0, .int 1], vm := .statics 8 },
  { cls := 12, slots := #[.null, .null, .null], vm := .statics 12 }]
def classes : Array Class := #[k0, k1, k2, k3, k4, k5, k6, k7, k8, k9, k10, k11, k12, k13, k14, k15, k16, k17, k18, k19, k20]
def interned : List (Array UInt16 × Addr) := []
def slotsUsed : Nat := 14
def theMethod : MethodId := ⟨1, 1⟩
def args0 : Array Value := #[.int 4325441, .int 5, .int 2]
def aboutOver (below : List Frame) : State where
  vm := { classes := classes, interned := interned.toArray }
  heap := heap
  slotsUsed := slotsUsed
  threads := #[{ frames := .invoking theMethod args0 :: below }]
def below0 : List Frame := [.native { method := ⟨0, 0⟩, args := #[] }]
def about1 : State := aboutOver below0
def p0 : Program := .bare "" "" ""
def e0 : Env := launch0.env 0 0 0
theorem w_frames : about1.frames = Frame.invoking theMethod args0 :: below0 := rfl
set_option maxRecDepth 65536 in
theorem w_args : argsFit about1.vm theMethod args0 = true := by decide +kernel
set_option maxRecDepth 65536 in
theorem w_heap : heapFits about1 = true := by decide +kernel
set_option maxRecDepth 65536 in
theorem w_runnable : about1.curStatus? = some .runnable := by decide +kernel
set_option maxRecDepth 65536 in
theorem w_alone : about1.alone = true := by decide +kernel
set_option maxRecDepth 65536 in
theorem w_named : about1.methodNamed? x = some theMethod := by decide +kernel
set_option maxRecDepth 65536 in
theorem w_hears : about1.hears theMethod below0 = true := by decide +kernel
set_option maxRecDepth 65536 in
theorem w_ripe : about1.ripe theMethod args0 below0 = true := by decide +kernel
theorem w_running : about1.status = .running := rfl
set_option maxRecDepth 65536 in
theorem w_room : about1.hasRoom e0.platform room_1 = true :=
  launch0.hasRoom_least _ room_1 (by decide +kernel) (by decide +kernel) (by decide +kernel) (by decide +kernel) (by decide +kernel) (by decide +kernel)
theorem allAtoms_all (ts : List Jvm.Cond) (a : Array Jvm.Value) (st : Jvm.State) : (allAtoms ts).before a st = ts.all (fun c => c.before a st) := by
  induction ts with
  | nil => rfl
  | cons c t ih =>
    show (Jvm.Cond.and c (allAtoms t)).before a st = _
    rw [Jvm.Cond.before_and, ih, List.all_cons]
def words1 : List Jvm.Cond := Jvm.Cond.code x code maxLocals ret :: tables_1
/-- a 'code' word, met by the world's own term for the bytes: nothing is compared byte by byte -/
theorem code_word {y : MethodName} {bytes : ByteArray} {mx : Nat} {rt : Option FieldType} {a : Array Value} {s : State} {m : MethodId} {meth : Method} {c : Code} (h1 : s.methodNamed? y = some m) (h2 : s.vm.method? m = some meth) (h3 : meth.code = some c) (h4 : c.code = bytes)
    (h5 : (c.maxLocals == mx && c.exceptionTable.isEmpty && decide (c.maxStack ≤ mostOperands) && decide (meth.sig.returnType = rt) && !meth.locks && decide (parseMethodDescriptor y.desc = some meth.sig)) = true) : (Jvm.Cond.code y bytes mx rt).before a s = true := by
  simp only [Bool.and_eq_true, beq_iff_eq, Bool.not_eq_true', decide_eq_true_eq] at h5
  obtain ⟨⟨⟨⟨⟨g1, g2⟩, g3⟩, g4⟩, g5⟩, g6⟩ := h5
  simp [Cond.before, Cond.holds, Cond.value, h1, h2, h3, h4, g1, g2, g3, g4, g5, g6]
def isCode : Jvm.Cond → Bool
  | .code _ _ _ _ => true
  | _ => false
theorem all_split {L : List Jvm.Cond} {P : Jvm.Cond → Bool} (h1 : L.all (fun c => isCode c || P c) = true) (h2 : ∀ c ∈ L.filter isCode, P c = true) : L.all P = true := by
  refine List.all_eq_true.mpr fun c hc => ?_
  have h := List.all_eq_true.mp h1 c hc
  rcases Bool.eq_false_or_eq_true (isCode c) with hi | hi
  · exact h2 c (List.mem_filter.mpr ⟨hc, hi⟩)
  · simpa [hi] using h
set_option maxRecDepth 65536 in
theorem w_c0 : (Jvm.Cond.code x code maxLocals ret).before args0 about1 = true := code_word (m := ⟨1, 1⟩) (meth := k1m1) (c := k1c1) (by decide +kernel) rfl rfl rfl (by decide +kernel)
set_option maxRecDepth 65536 in
theorem w_c1 : (Jvm.Cond.code ({ cls := "java/lang/String", name := "<init>", desc := "([C)V" } : Jvm.MethodName) jdk_42_method_3_code (2 : Nat) (Option.none : Option Jvm.ClassFile.FieldType)).before args0 about1 = true := code_word (m := ⟨7, 1⟩) (meth := k7m1) (c := k7c1) (by decide +kernel) rfl rfl rfl (by decide +kernel)
set_option maxRecDepth 65536 in
theorem w_c2 : (Jvm.Cond.code ({ cls := "java/lang/String", name := "<init>", desc := "([CIILjava/lang/Void;)V" } : Jvm.MethodName) jdk_42_method_149_code (6 : Nat) (Option.none : Option Jvm.ClassFile.FieldType)).before args0 about1 = true := code_word (m := ⟨7, 3⟩) (meth := k7m3) (c := k7c3) (by decide +kernel) rfl rfl rfl (by decide +kernel)
set_option maxRecDepth 65536 in
theorem w_c3 : (Jvm.Cond.code ({ cls := "java/lang/Object", name := "<init>", desc := "()V" } : Jvm.MethodName) object_method_1_code (1 : Nat) (Option.none : Option Jvm.ClassFile.FieldType)).before args0 about1 = true := code_word (m := ⟨0, 0⟩) (meth := k0m0) (c := k0c0) (by decide +kernel) rfl rfl rfl (by decide +kernel)
set_option maxRecDepth 65536 in
theorem w_c4 : (Jvm.Cond.code ({ cls := "java/lang/StringUTF16", name := "compress", desc := "([CII)[B" } : Jvm.MethodName) jdk_52_method_16_code (6 : Nat) (Option.some (Jvm.ClassFile.FieldType.array Jvm.ClassFile.FieldType.byte))).before args0 about1 = true := code_word (m := ⟨8, 7⟩) (meth := k8m7) (c := k8c7) (by decide +kernel) rfl rfl rfl (by decide +kernel)
set_option maxRecDepth 65536 in
theorem w_c5 : (Jvm.Cond.code ({ cls := "java/lang/StringUTF16", name := "compress", desc := "([CI[BII)I" } : Jvm.MethodName) jdk_52_method_21_code (7 : Nat) (Option.some Jvm.ClassFile.FieldType.int)).before args0 about1 = true := code_word (m := ⟨8, 8⟩) (meth := k8m8) (c := k8c8) (by decide +kernel) rfl rfl rfl (by decide +kernel)
set_option maxRecDepth 65536 in
theorem w_c6 : (Jvm.Cond.code ({ cls := "java/lang/StringUTF16", name := "coderFromArrayLen", desc := "([BI)B" } : Jvm.MethodName) jdk_52_method_15_code (2 : Nat) (Option.some Jvm.ClassFile.FieldType.byte)).before args0 about1 = true := code_word (m := ⟨8, 6⟩) (meth := k8m6) (c := k8c6) (by decide +kernel) rfl rfl rfl (by decide +kernel)
set_option maxRecDepth 65536 in
theorem w_c7 : (Jvm.Cond.code ({ cls := "com/example/latchkey/latchkey/LockNames", name := "requireKeyPrefix", desc := "(Ljava/lang/String;)Ljava/lang/String;" } : Jvm.MethodName) prog_19_method_5_code (1 : Nat) (Option.some (Jvm.ClassFile.FieldType.object "java/lang/String"))).before args0 about1 = true := code_word (m := ⟨9, 1⟩) (meth := k9m1) (c := k9c1) (by decide +kernel) rfl rfl rfl (by decide +kernel)
set_option maxRecDepth 65536 in
theorem w_c8 : (Jvm.Cond.code ({ cls := "java/util/Objects", name := "requireNonNull", desc := "(Ljava/lang/Object;Ljava/lang/String;)Ljava/lang/Object;" } : Jvm.MethodName) jdk_31_method_11_code (2 : Nat) (Option.some (Jvm.ClassFile.FieldType.object "java/lang/Object"))).before args0 about1 = true := code_word (m := ⟨10, 1⟩) (meth := k10m1) (c := k10c1) (by decide +kernel) rfl rfl rfl (by decide +kernel)
set_option maxRecDepth 65536 in
theorem w_c9 : (Jvm.Cond.code ({ cls := "java/lang/String", name := "isEmpty", desc := "()Z" } : Jvm.MethodName) jdk_42_method_55_code (1 : Nat) (Option.some Jvm.ClassFile.FieldType.boolean)).before args0 about1 = true := code_word (m := ⟨7, 2⟩) (meth := k7m2) (c := k7c2) (by decide +kernel) rfl rfl rfl (by decide +kernel)
set_option maxRecDepth 65536 in
theorem w_c10 : (Jvm.Cond.code ({ cls := "java/lang/StringUTF16", name := "toBytes", desc := "([CII)[B" } : Jvm.MethodName) jdk_52_method_14_code (5 : Nat) (Option.some (Jvm.ClassFile.FieldType.array Jvm.ClassFile.FieldType.byte))).before args0 about1 = true := code_word (m := ⟨8, 5⟩) (meth := k8m5) (c := k8c5) (by decide +kernel) rfl rfl rfl (by decide +kernel)
set_option maxRecDepth 65536 in
theorem w_c11 : (Jvm.Cond.code ({ cls := "java/lang/StringUTF16", name := "newBytesFor", desc := "(I)[B" } : Jvm.MethodName) jdk_52_method_2_code (1 : Nat) (Option.some (Jvm.ClassFile.FieldType.array Jvm.ClassFile.FieldType.byte))).before args0 about1 = true := code_word (m := ⟨8, 1⟩) (meth := k8m1) (c := k8c1) (by decide +kernel) rfl rfl rfl (by decide +kernel)
set_option maxRecDepth 65536 in
theorem w_c12 : (Jvm.Cond.code ({ cls := "java/lang/StringUTF16", name := "newBytesLength", desc := "(I)I" } : Jvm.MethodName) jdk_52_method_3_code (1 : Nat) (Option.some Jvm.ClassFile.FieldType.int)).before args0 about1 = true := code_word (m := ⟨8, 2⟩) (meth := k8m2) (c := k8c2) (by decide +kernel) rfl rfl rfl (by decide +kernel)
set_option maxRecDepth 65536 in
theorem w_c13 : (Jvm.Cond.code ({ cls := "java/lang/StringUTF16", name := "putChar", desc := "([BII)V" } : Jvm.MethodName) jdk_52_method_4_code (3 : Nat) (Option.none : Option Jvm.ClassFile.FieldType)).before args0 about1 = true := code_word (m := ⟨8, 3⟩) (meth := k8m3) (c := k8c3) (by decide +kernel) rfl rfl rfl (by decide +kernel)
set_option maxRecDepth 65536 in
theorem w_c14 : (Jvm.Cond.code ({ cls := "java/lang/StringUTF16", name := "getChar", desc := "([BI)C" } : Jvm.MethodName) jdk_52_method_5_code (2 : Nat) (Option.some Jvm.ClassFile.FieldType.char)).before args0 about1 = true := code_word (m := ⟨8, 4⟩) (meth := k8m4) (c := k8c4) (by decide +kernel) rfl rfl rfl (by decide +kernel)
def codes1 : List Jvm.Cond := [Jvm.Cond.code x code maxLocals ret, Jvm.Cond.code ({ cls := "java/lang/String", name := "<init>", desc := "([C)V" } : Jvm.MethodName) jdk_42_method_3_code (2 : Nat) (Option.none : Option Jvm.ClassFile.FieldType), Jvm.Cond.code ({ cls := "java/lang/String", name := "<init>", desc := "([CIILjava/lang/Void;)V" } : Jvm.MethodName) jdk_42_method_149_code (6 : Nat) (Option.none : Option Jvm.ClassFile.FieldType), Jvm.Cond.code ({ cls := "java/lang/Object", name := "<init>", desc := "()V" } : Jvm.MethodName) object_method_1_code (1 : Nat) (Option.none : Option Jvm.ClassFile.FieldType), Jvm.Cond.code ({ cls := "java/lang/StringUTF16", name := "compress", desc := "([CII)[B" } : Jvm.MethodName) jdk_52_method_16_code (6 : Nat) (Option.some (Jvm.ClassFile.FieldType.array Jvm.ClassFile.FieldType.byte)), Jvm.Cond.code ({ cls := "java/lang/StringUTF16", name := "compress", desc := "([CI[BII)I" } : Jvm.MethodName) jdk_52_method_21_code (7 : Nat) (Option.some Jvm.ClassFile.FieldType.int), Jvm.Cond.code ({ cls := "java/lang/StringUTF16", name := "coderFromArrayLen", desc := "([BI)B" } : Jvm.MethodName) jdk_52_method_15_code (2 : Nat) (Option.some Jvm.ClassFile.FieldType.byte), Jvm.Cond.code ({ cls := "com/example/latchkey/latchkey/LockNames", name := "requireKeyPrefix", desc := "(Ljava/lang/String;)Ljava/lang/String;" } : Jvm.MethodName) prog_19_method_5_code (1 : Nat) (Option.some (Jvm.ClassFile.FieldType.object "java/lang/String")), Jvm.Cond.code ({ cls := "java/util/Objects", name := "requireNonNull", desc := "(Ljava/lang/Object;Ljava/lang/String;)Ljava/lang/Object;" } : Jvm.MethodName) jdk_31_method_11_code (2 : Nat) (Option.some (Jvm.ClassFile.FieldType.object "java/lang/Object")), Jvm.Cond.code ({ cls := "java/lang/String", name := "isEmpty", desc := "()Z" } : Jvm.MethodName) jdk_42_method_55_code (1 : Nat) (Option.some Jvm.ClassFile.FieldType.boolean), Jvm.Cond.code ({ cls := "java/lang/StringUTF16", name := "toBytes", desc := "([CII)[B" } : Jvm.MethodName) jdk_52_method_14_code (5 : Nat) (Option.some (Jvm.ClassFile.FieldType.array Jvm.ClassFile.FieldType.byte)), Jvm.Cond.code ({ cls := "java/lang/StringUTF16", name := "newBytesFor", desc := "(I)[B" } : Jvm.MethodName) jdk_52_method_2_code (1 : Nat) (Option.some (Jvm.ClassFile.FieldType.array Jvm.ClassFile.FieldType.byte)), Jvm.Cond.code ({ cls := "java/lang/StringUTF16", name := "newBytesLength", desc := "(I)I" } : Jvm.MethodName) jdk_52_method_3_code (1 : Nat) (Option.some Jvm.ClassFile.FieldType.int), Jvm.Cond.code ({ cls := "java/lang/StringUTF16", name := "putChar", desc := "([BII)V" } : Jvm.MethodName) jdk_52_method_4_code (3 : Nat) (Option.none : Option Jvm.ClassFile.FieldType), Jvm.Cond.code ({ cls := "java/lang/StringUTF16", name := "getChar", desc := "([BI)C" } : Jvm.MethodName) jdk_52_method_5_code (2 : Nat) (Option.some Jvm.ClassFile.FieldType.char)]
set_option maxRecDepth 65536 in
theorem codes_eq : words1.filter isCode = codes1 := rfl
theorem w_codes : ∀ c ∈ words1.filter isCode, c.before args0 about1 = true := by
  rw [codes_eq]
  intro c hc
  simp only [codes1, List.mem_cons, List.not_mem_nil, or_false] at hc
  rcases hc with rfl | rfl | rfl | rfl | rfl | rfl | rfl | rfl | rfl | rfl | rfl | rfl | rfl | rfl | rfl
  · exact w_c0
  · exact w_c1
  · exact w_c2
  · exact w_c3
  · exact w_c4
  · exact w_c5
  · exact w_c6
  · exact w_c7
  · exact w_c8
  · exact w_c9
  · exact w_c10
  · exact w_c11
  · exact w_c12
  · exact w_c13
  · exact w_c14
set_option maxRecDepth 65536 in
theorem w_t1 : (words1.take 24).all (fun c => isCode c || c.before args0 about1) = true := by decide +kernel
set_option maxRecDepth 65536 in
theorem w_t2 : ((words1.drop 24).take 24).all (fun c => isCode c || c.before args0 about1) = true := by decide +kernel
set_option maxRecDepth 65536 in
theorem w_t3 : ((words1.drop 24).drop 24).all (fun c => isCode c || c.before args0 about1) = true := by decide +kernel
theorem w_tables : (allAtoms (Jvm.Cond.code x code maxLocals ret :: tables_1)).before args0 about1 = true := by
  rw [allAtoms_all]
  show words1.all (fun c => c.before args0 about1) = true
  refine all_split ?_ w_codes
  rw [← List.take_append_drop 24 words1, List.all_append, w_t1, ← List.take_append_drop 24 (words1.drop 24), List.all_append, w_t2, w_t3]
  rfl
set_option maxRecDepth 65536 in
theorem w_rest : rest_1_c.before args0 about1 = true := by decide +kernel
set_option maxRecDepth 65536 in
theorem w_case : (Jvm.Cond.and given_1 narrow_1).before args0 about1 = true := by decide +kernel
theorem w_applies : (headSpec (Jvm.Cond.code x code maxLocals ret :: tables_1) room_1).applies x e0.platform about1 = true :=
  (Spec.applies_iff w_frames).mpr ⟨w_running, w_runnable, w_alone, w_named, w_hears, w_ripe, w_room, w_tables⟩
theorem atStart : AtStart classFile x code maxLocals ret World_1 tables_1 room_1 Calls_1 rest_1 Pre_1 launch0 p0 e0 about1 theMethod args0 below0 :=
  ⟨lists_1, trivial, launch0.admits_env _ _ _, launch0.least_env, fairChoices_fair.cas, fairChoices_fair.clock, w_frames, w_args, w_heap, w_applies, trivial, w_rest, w_case⟩
end start1
theorem witness_1 : WitnessClaimed_1 := ⟨start1.p0, start1.e0, start1.about1, start1.theMethod, start1.args0, start1.below0, start1.atStart⟩
end Jvm.Pilot.@@N@@
