import JvmDerived
import JvmDerived.Pilot.@@N@@Statement
import JvmDerived.Pilot.@@N@@Code
set_option linter.unusedVariables false
set_option linter.unusedSimpArgs false
namespace Jvm.Pilot.@@N@@
open Jvm Jvm.ClassFile Sem Op Lib Jvm.Free Jvm.Stand Jvm.LawKit Jvm.RoadKit Bundle Jvm.Pilot.@@N@@.Jvm.D
theorem own_eqi {args : Array Value} {s : State} {t : Term} {k : Int32} (h : (Jvm.Cond.eq t (.int k)).value args s none s [] = some true) : t.eval args s none [] s = some (.int k) := by
  simp only [Cond.value, Term.eval] at h
  cases ht : t.eval args s none [] s with
  | none => simp [ht] at h
  | some x => cases x <;> simp [ht] at h ⊢ <;> exact h
theorem own_nei {args : Array Value} {s : State} {t : Term} {k x : Int32} (h : (Jvm.Cond.not (Jvm.Cond.eq t (.int k))).value args s none s [] = some true) (ht : t.eval args s none [] s = some (.int x)) : ¬ (x = k) := by
  have h1 := not_v h
  simp only [Cond.value, ht, Term.eval] at h1
  intro e
  subst e
  simp at h1
theorem own_i2b2 (x : Int32) : (x.toInt8.toInt32).toInt8.toInt32 = x.toInt8.toInt32 := by
  have h1 := c_i2b x
  have h2 := c_i2b (x.toInt8.toInt32)
  apply Int32.toInt_inj.mp
  omega
theorem own_le255 (x : Int32) : ¬ ((255 : Int32) < (x &&& (255 : Int32))) := by
  have h := c_mask x 255 8 (by decide) (by decide)
  have h2 : (255 : Int32).toInt = 255 := rfl
  rw [Int32.lt_iff_toInt_lt, h, h2]
  omega
theorem d1_0 : decode jdk_42_method_3_code 0 = .ok (.aload_n 0, 1) := by decide +kernel
theorem d1_1 : decode jdk_42_method_3_code 1 = .ok (.aload_n 1, 1) := by decide +kernel
theorem d1_2 : decode jdk_42_method_3_code 2 = .ok (.iconst 0, 1) := by decide +kernel
theorem d1_3 : decode jdk_42_method_3_code 3 = .ok (.aload_n 1, 1) := by decide +kernel
theorem d1_4 : decode jdk_42_method_3_code 4 = .ok (.arraylength, 1) := by decide +kernel
theorem d1_5 : decode jdk_42_method_3_code 5 = .ok (.aconst_null, 1) := by decide +kernel
theorem d1_6 : decode jdk_42_method_3_code 6 = .ok (.invokespecial 27, 3) := by decide +kernel
theorem d2_0 : decode jdk_42_method_149_code 0 = .ok (.aload_n 0, 1) := by decide +kernel
theorem d2_1 : decode jdk_42_method_149_code 1 = .ok (.invokespecial 1, 3) := by decide +kernel
theorem d2_4 : decode jdk_42_method_149_code 4 = .ok (.iload_n 3, 1) := by decide +kernel
theorem d2_5 : decode jdk_42_method_149_code 5 = .ok (.ifCond .ne 22, 3) := by decide +kernel
theorem d2_27 : decode jdk_42_method_149_code 27 = .ok (.getstatic 38, 3) := by decide +kernel
theorem d2_30 : decode jdk_42_method_149_code 30 = .ok (.ifCond .eq 28, 3) := by decide +kernel
theorem d2_33 : decode jdk_42_method_149_code 33 = .ok (.aload_n 1, 1) := by decide +kernel
theorem d2_34 : decode jdk_42_method_149_code 34 = .ok (.iload_n 2, 1) := by decide +kernel
theorem d2_35 : decode jdk_42_method_149_code 35 = .ok (.iload_n 3, 1) := by decide +kernel
theorem d2_36 : decode jdk_42_method_149_code 36 = .ok (.invokestatic 177, 3) := by decide +kernel
theorem d3_0 : decode jdk_52_method_16_code 0 = .ok (.iload_n 2, 1) := by decide +kernel
theorem d3_1 : decode jdk_52_method_16_code 1 = .ok (.newarray .byte, 2) := by decide +kernel
theorem d3_3 : decode jdk_52_method_16_code 3 = .ok (.astore_n 3, 1) := by decide +kernel
theorem d3_4 : decode jdk_52_method_16_code 4 = .ok (.aload_n 0, 1) := by decide +kernel
theorem d3_5 : decode jdk_52_method_16_code 5 = .ok (.iload_n 1, 1) := by decide +kernel
theorem d3_6 : decode jdk_52_method_16_code 6 = .ok (.aload_n 3, 1) := by decide +kernel
theorem d3_7 : decode jdk_52_method_16_code 7 = .ok (.iconst 0, 1) := by decide +kernel
theorem d3_8 : decode jdk_52_method_16_code 8 = .ok (.iload_n 2, 1) := by decide +kernel
theorem d3_9 : decode jdk_52_method_16_code 9 = .ok (.invokestatic 115, 3) := by decide +kernel
theorem d4_0 : decode jdk_52_method_21_code 0 = .ok (.iconst 0, 1) := by decide +kernel
theorem d4_1 : decode jdk_52_method_21_code 1 = .ok (.istore 5, 2) := by decide +kernel
theorem d4_3 : decode jdk_52_method_21_code 3 = .ok (.iload 5, 2) := by decide +kernel
theorem d4_5 : decode jdk_52_method_21_code 5 = .ok (.iload 4, 2) := by decide +kernel
theorem d4_7 : decode jdk_52_method_21_code 7 = .ok (.if_icmp .ge 37, 3) := by decide +kernel
theorem d4_10 : decode jdk_52_method_21_code 10 = .ok (.aload_n 0, 1) := by decide +kernel
theorem d4_11 : decode jdk_52_method_21_code 11 = .ok (.iload_n 1, 1) := by decide +kernel
theorem d4_12 : decode jdk_52_method_21_code 12 = .ok (.caload, 1) := by decide +kernel
theorem d4_13 : decode jdk_52_method_21_code 13 = .ok (.istore 6, 2) := by decide +kernel
theorem d4_15 : decode jdk_52_method_21_code 15 = .ok (.iload 6, 2) := by decide +kernel
theorem d4_17 : decode jdk_52_method_21_code 17 = .ok (.sipush 255, 3) := by decide +kernel
theorem d4_20 : decode jdk_52_method_21_code 20 = .ok (.if_icmp .le 6, 3) := by decide +kernel
theorem d4_26 : decode jdk_52_method_21_code 26 = .ok (.aload_n 2, 1) := by decide +kernel
theorem d4_27 : decode jdk_52_method_21_code 27 = .ok (.iload_n 3, 1) := by decide +kernel
theorem d4_28 : decode jdk_52_method_21_code 28 = .ok (.iload 6, 2) := by decide +kernel
theorem d4_30 : decode jdk_52_method_21_code 30 = .ok (.i2b, 1) := by decide +kernel
theorem d4_31 : decode jdk_52_method_21_code 31 = .ok (.bastore, 1) := by decide +kernel
theorem d4_32 : decode jdk_52_method_21_code 32 = .ok (.iinc 1 1, 3) := by decide +kernel
theorem d4_35 : decode jdk_52_method_21_code 35 = .ok (.iinc 3 1, 3) := by decide +kernel
theorem d4_38 : decode jdk_52_method_21_code 38 = .ok (.iinc 5 1, 3) := by decide +kernel
theorem d4_41 : decode jdk_52_method_21_code 41 = .ok (.goto (-38), 3) := by decide +kernel
theorem d4_44 : decode jdk_52_method_21_code 44 = .ok (.iload 4, 2) := by decide +kernel
theorem d4_46 : decode jdk_52_method_21_code 46 = .ok (.ireturn, 1) := by decide +kernel
theorem pn_0 : plainName "java/lang/StringUTF16" = true := by first | (simp [plainName, overriddenIn]; done) | decide +kernel
theorem efcompress5 (m : MethodId) (o0_ : Addr) (o1_ : Addr) : entryFrame m #[(.ref o0_), (.int (0 : Int32)), (.ref o1_), (.int (0 : Int32)), (.int (1 : Int32))] 7 = mkF m 0 #[.val (.ref o0_), .val (.int (0 : Int32)), .val (.ref o1_), .val (.int (0 : Int32)), .val (.int (1 : Int32)), .unset, .unset] [] := by first | (simp [entryFrame, mkF, argsToLocals, Value.category]; done) | rfl
def Qcompress5 (Z : State) (o0_ : Addr) (o1_ : Addr) (ko0_ : ClassId) (x0_ : Int32) (ko1_ : ClassId) (h0 : Heap) (n0 : Nat) (v : Option Value) (h : Heap) (L : List Loc) : Prop := v = some (.int (1 : Int32)) ∧ Fr n0 L ∧ Keep h0 h [o1_] ∧ Arv Z h o1_ ko1_ .byte (1 : Int32) [(.int (x0_.toInt8.toInt32))] (.int (0 : Int32)) ∧ Exa Z h o1_ "[B"
set_option maxRecDepth 65536 in
set_option maxHeartbeats 40000000 in
theorem rmcompress5 (l : Launch) (Z : State) (a0 : Array Value) (hw : ∀ d ∈ tables_1, d.before a0 Z = true) (ws : List Jvm.Cond) (o0_ : Addr) (o1_ : Addr) (ko0_ : ClassId) (x0_ : Int32) (ko1_ : ClassId) (h0 : Heap) (n0 : Nat) (O0 : Old Z n0 h0) (ha0 : ¬ ((255 : Int32) < x0_)) (P1 : Arv Z h0 o0_ ko0_ .char (1 : Int32) [(.int x0_)] (.int (0 : Int32))) (P2 : Exa Z h0 o0_ "[C") (P3 : Arv Z h0 o1_ ko1_ .byte (1 : Int32) [(.int (0 : Int32))] (.int (0 : Int32))) (P4 : Exa Z h0 o1_ "[B") (P5 : n0 ≤ o1_) :
    MetFree l (⟨"java/lang/StringUTF16", "compress", "([CI[BII)I"⟩ : MethodName) (head1 (Jvm.Cond.code (⟨"java/lang/StringUTF16", "compress", "([CI[BII)I"⟩ : MethodName) jdk_52_method_21_code 7 (some .int) :: ws) ({ frames := 0, cells := 0, slots := 0, locals := 0 } : Room)) (fun a U => a = #[(.ref o0_), (.int (0 : Int32)), (.ref o1_), (.int (0 : Int32)), (.int (1 : Int32))] ∧ Z.Warmed39 U.vm ∧ U.heap = h0) (fun _ _ _ _ _ => True) (fun _ U o U' => ∃ v L, o = .returned v ∧ Qcompress5 Z o0_ o1_ ko0_ x0_ ko1_ h0 n0 v U'.heap L ∧ FrameEnd U o U' L ({ frames := 0, cells := 0, slots := 0, locals := 0 } : Room).cells ({ frames := 0, cells := 0, slots := 0, locals := 0 } : Room).slots) := by
  refine MetFree.of_bodySF (plainFor_of_name pn_0) hisR ?_
  intro p e s m args below meth c s₁ Bd hml0 hP hK
  obtain ⟨rfl, hZ, hh⟩ := hP
  have hx := Bd.exec
  have hby := Bd.bytes
  have hml : c.maxLocals = 7 := hml0
  have hown : s.vm.findClass "java/lang/StringUTF16" = some m.cls := findClass_of_methodNamed Bd.named
  have hnm := (name_of_methodNamed Bd.named Bd.method).1
  have X0 : Stand p l e ({ frames := 0, cells := 0, slots := 0, locals := 0 } : Room) s m #[(.ref o0_), (.int (0 : Int32)), (.ref o1_), (.int (0 : Int32)), (.int (1 : Int32))] below meth c s₁ [] 0 0 := Stand.of_body Bd
  have e0 : s₁.heap = h0 := by rw [← hh, Bd.state]; rfl
  have N0 := Fr.nil n0
  have pre0 : ∀ t, Steps p.tables e below (s₁.setTop (mkF m 0 #[.val (.ref o0_), .val (.int (0 : Int32)), .val (.ref o1_), .val (.int (0 : Int32)), .val (.int (1 : Int32)), .unset, .unset] [])) t → Steps p.tables e below (s₁.setTop (entryFrame m #[(.ref o0_), (.int (0 : Int32)), (.ref o1_), (.int (0 : Int32)), (.int (1 : Int32))] 7)) t := fun t k => castTop (efcompress5 m o0_ o1_) k
  have K0 : Keep h0 h0 [o1_] := Keep.refl _ _
  obtain ⟨c1, r1, q1, s1, z1, y1, G1⟩ := id P1
  have hin1 : ¬ ((0 : Int32) < 0 ∨ c1.slots.size ≤ ((0 : Int32)).toNatClampNeg) := inb_of s1 ⟨by decide, by decide⟩
  have hat1 : c1.slots[((0 : Int32)).toNatClampNeg]? = some (.int x0_) := Has.at y1 hin1 rfl
  obtain ⟨c2, r2, q2, s2, z2, y2, G2⟩ := id P3
  have hin2 : ¬ ((0 : Int32) < 0 ∨ c2.slots.size ≤ ((0 : Int32)).toNatClampNeg) := inb_of s2 ⟨by decide, by decide⟩
  obtain ⟨T2, h2, X2, e2, W2, st2⟩ := stB X0 hx hZ e0 r2 (j := (0 : Int32)) hin2 (g := (mkF m 31 #[.val (.ref o0_), .val (.int (0 : Int32)), .val (.ref o1_), .val (.int (0 : Int32)), .val (.int (1 : Int32)), .val (.int (0 : Int32)), .val (.int x0_)] [(.int (x0_.toInt8.toInt32)), (.int (0 : Int32)), (.ref o1_)])) rfl rfl (hb hby d4_31)
  have N3 := Fr.snoc X2 N0 P5
  have f4 : Arv Z h2 o1_ ko1_ .byte (1 : Int32) [(.int ((x0_.toInt8.toInt32).toInt8.toInt32))] (.int (0 : Int32)) := Arv.set r2 q2 s2 z2 y2 G2 (fits_nar_byte _) W2 0 rfl (Nat.le_of_ble_eq_true rfl)
  have f5 : Arv Z h2 o1_ ko1_ .byte (1 : Int32) [(.int (x0_.toInt8.toInt32))] (.int (0 : Int32)) := by have q := f4; rw [own_i2b2] at q; exact q
  have pre6 : ∀ t, Steps p.tables e below (T2.setTop (mkF m 46 #[.val (.ref o0_), .val (.int (1 : Int32)), .val (.ref o1_), .val (.int (1 : Int32)), .val (.int (1 : Int32)), .val (.int (1 : Int32)), .val (.int x0_)] [(.int (1 : Int32))])) t → Steps p.tables e below (s₁.setTop (entryFrame m #[(.ref o0_), (.int (0 : Int32)), (.ref o1_), (.int (0 : Int32)), (.int (1 : Int32))] 7)) t := by
    intro t kt
    refine pre0 t ?_
    show Steps p.tables e below (s₁.setTop (mkF m 0 #[.val (.ref o0_), .val (.int (0 : Int32)), .val (.ref o1_), .val (.int (0 : Int32)), .val (.int (1 : Int32)), .unset, .unset] [])) _
    refine XS.iconst X0.here hx rfl (hb hby d4_0) ?_
    show Steps p.tables e below (s₁.setTop (mkF m 1 #[.val (.ref o0_), .val (.int (0 : Int32)), .val (.ref o1_), .val (.int (0 : Int32)), .val (.int (1 : Int32)), .unset, .unset] [(.int (0 : Int32))])) _
    refine XS.istore X0.here hx rfl (hb hby d4_1) rfl (l' := #[.val (.ref o0_), .val (.int (0 : Int32)), .val (.ref o1_), .val (.int (0 : Int32)), .val (.int (1 : Int32)), .val (.int (0 : Int32)), .unset]) rfl ?_
    show Steps p.tables e below (s₁.setTop (mkF m 3 #[.val (.ref o0_), .val (.int (0 : Int32)), .val (.ref o1_), .val (.int (0 : Int32)), .val (.int (1 : Int32)), .val (.int (0 : Int32)), .unset] [])) _
    refine XS.iload X0.here hx rfl (hb hby d4_3) rfl ?_
    show Steps p.tables e below (s₁.setTop (mkF m 5 #[.val (.ref o0_), .val (.int (0 : Int32)), .val (.ref o1_), .val (.int (0 : Int32)), .val (.int (1 : Int32)), .val (.int (0 : Int32)), .unset] [(.int (0 : Int32))])) _
    refine XS.iload X0.here hx rfl (hb hby d4_5) rfl ?_
    show Steps p.tables e below (s₁.setTop (mkF m 7 #[.val (.ref o0_), .val (.int (0 : Int32)), .val (.ref o1_), .val (.int (0 : Int32)), .val (.int (1 : Int32)), .val (.int (0 : Int32)), .unset] [(.int (1 : Int32)), (.int (0 : Int32))])) _
    refine XS.icmpNo X0.here hx rfl (hb hby d4_7) rfl (tlt (by decide : (0 : Int32) < (1 : Int32))).2.1 ?_
    show Steps p.tables e below (s₁.setTop (mkF m 10 #[.val (.ref o0_), .val (.int (0 : Int32)), .val (.ref o1_), .val (.int (0 : Int32)), .val (.int (1 : Int32)), .val (.int (0 : Int32)), .unset] [])) _
    refine XS.aloadN X0.here hx rfl (hb hby d4_10) rfl rfl ?_
    show Steps p.tables e below (s₁.setTop (mkF m 11 #[.val (.ref o0_), .val (.int (0 : Int32)), .val (.ref o1_), .val (.int (0 : Int32)), .val (.int (1 : Int32)), .val (.int (0 : Int32)), .unset] [(.ref o0_)])) _
    refine XS.iloadN X0.here hx rfl (hb hby d4_11) rfl ?_
    show Steps p.tables e below (s₁.setTop (mkF m 12 #[.val (.ref o0_), .val (.int (0 : Int32)), .val (.ref o1_), .val (.int (0 : Int32)), .val (.int (1 : Int32)), .val (.int (0 : Int32)), .unset] [(.int (0 : Int32)), (.ref o0_)])) _
    refine X0.caload hx (j := (0 : Int32)) (v := (.int x0_)) (by rw [e0]; exact r1.1) (State.isArrayOf_alike hZ.alike r1.2.1) r1.2.2 hin1 hat1 (g := (mkF m 12 #[.val (.ref o0_), .val (.int (0 : Int32)), .val (.ref o1_), .val (.int (0 : Int32)), .val (.int (1 : Int32)), .val (.int (0 : Int32)), .unset] [(.int (0 : Int32)), (.ref o0_)])) rfl rfl (hb hby d4_12) _ ?_
    show Steps p.tables e below (s₁.setTop (mkF m 13 #[.val (.ref o0_), .val (.int (0 : Int32)), .val (.ref o1_), .val (.int (0 : Int32)), .val (.int (1 : Int32)), .val (.int (0 : Int32)), .unset] [(.int x0_)])) _
    refine XS.istore X0.here hx rfl (hb hby d4_13) rfl (l' := #[.val (.ref o0_), .val (.int (0 : Int32)), .val (.ref o1_), .val (.int (0 : Int32)), .val (.int (1 : Int32)), .val (.int (0 : Int32)), .val (.int x0_)]) rfl ?_
    show Steps p.tables e below (s₁.setTop (mkF m 15 #[.val (.ref o0_), .val (.int (0 : Int32)), .val (.ref o1_), .val (.int (0 : Int32)), .val (.int (1 : Int32)), .val (.int (0 : Int32)), .val (.int x0_)] [])) _
    refine XS.iload X0.here hx rfl (hb hby d4_15) rfl ?_
    show Steps p.tables e below (s₁.setTop (mkF m 17 #[.val (.ref o0_), .val (.int (0 : Int32)), .val (.ref o1_), .val (.int (0 : Int32)), .val (.int (1 : Int32)), .val (.int (0 : Int32)), .val (.int x0_)] [(.int x0_)])) _
    refine XS.sipush X0.here hx rfl (hb hby d4_17) ?_
    show Steps p.tables e below (s₁.setTop (mkF m 20 #[.val (.ref o0_), .val (.int (0 : Int32)), .val (.ref o1_), .val (.int (0 : Int32)), .val (.int (1 : Int32)), .val (.int (0 : Int32)), .val (.int x0_)] [(.int (255 : Int32)), (.int x0_)])) _
    refine XS.icmpYes X0.here hx rfl (pc0 := 20) (pc' := 26) rfl (hb hby d4_20) rfl (flt ha0).2.2.2 (by decide) (by decide) ?_
    show Steps p.tables e below (s₁.setTop (mkF m 26 #[.val (.ref o0_), .val (.int (0 : Int32)), .val (.ref o1_), .val (.int (0 : Int32)), .val (.int (1 : Int32)), .val (.int (0 : Int32)), .val (.int x0_)] [])) _
    refine XS.aloadN X0.here hx rfl (hb hby d4_26) rfl rfl ?_
    show Steps p.tables e below (s₁.setTop (mkF m 27 #[.val (.ref o0_), .val (.int (0 : Int32)), .val (.ref o1_), .val (.int (0 : Int32)), .val (.int (1 : Int32)), .val (.int (0 : Int32)), .val (.int x0_)] [(.ref o1_)])) _
    refine XS.iloadN X0.here hx rfl (hb hby d4_27) rfl ?_
    show Steps p.tables e below (s₁.setTop (mkF m 28 #[.val (.ref o0_), .val (.int (0 : Int32)), .val (.ref o1_), .val (.int (0 : Int32)), .val (.int (1 : Int32)), .val (.int (0 : Int32)), .val (.int x0_)] [(.int (0 : Int32)), (.ref o1_)])) _
    refine XS.iload X0.here hx rfl (hb hby d4_28) rfl ?_
    show Steps p.tables e below (s₁.setTop (mkF m 30 #[.val (.ref o0_), .val (.int (0 : Int32)), .val (.ref o1_), .val (.int (0 : Int32)), .val (.int (1 : Int32)), .val (.int (0 : Int32)), .val (.int x0_)] [(.int x0_), (.int (0 : Int32)), (.ref o1_)])) _
    refine XS.i2b X0.here hx rfl (hb hby d4_30) rfl ?_
    show Steps p.tables e below (s₁.setTop (mkF m 31 #[.val (.ref o0_), .val (.int (0 : Int32)), .val (.ref o1_), .val (.int (0 : Int32)), .val (.int (1 : Int32)), .val (.int (0 : Int32)), .val (.int x0_)] [(.int (x0_.toInt8.toInt32)), (.int (0 : Int32)), (.ref o1_)])) _
    refine st2 _ ?_
    show Steps p.tables e below (T2.setTop (mkF m 32 #[.val (.ref o0_), .val (.int (0 : Int32)), .val (.ref o1_), .val (.int (0 : Int32)), .val (.int (1 : Int32)), .val (.int (0 : Int32)), .val (.int x0_)] [])) _
    refine XS.iinc X2.here hx rfl (hb hby d4_32) rfl (l' := #[.val (.ref o0_), .val (.int (1 : Int32)), .val (.ref o1_), .val (.int (0 : Int32)), .val (.int (1 : Int32)), .val (.int (0 : Int32)), .val (.int x0_)]) rfl ?_
    show Steps p.tables e below (T2.setTop (mkF m 35 #[.val (.ref o0_), .val (.int (1 : Int32)), .val (.ref o1_), .val (.int (0 : Int32)), .val (.int (1 : Int32)), .val (.int (0 : Int32)), .val (.int x0_)] [])) _
    refine XS.iinc X2.here hx rfl (hb hby d4_35) rfl (l' := #[.val (.ref o0_), .val (.int (1 : Int32)), .val (.ref o1_), .val (.int (1 : Int32)), .val (.int (1 : Int32)), .val (.int (0 : Int32)), .val (.int x0_)]) rfl ?_
    show Steps p.tables e below (T2.setTop (mkF m 38 #[.val (.ref o0_), .val (.int (1 : Int32)), .val (.ref o1_), .val (.int (1 : Int32)), .val (.int (1 : Int32)), .val (.int (0 : Int32)), .val (.int x0_)] [])) _
    refine XS.iinc X2.here hx rfl (hb hby d4_38) rfl (l' := #[.val (.ref o0_), .val (.int (1 : Int32)), .val (.ref o1_), .val (.int (1 : Int32)), .val (.int (1 : Int32)), .val (.int (1 : Int32)), .val (.int x0_)]) rfl ?_
    show Steps p.tables e below (T2.setTop (mkF m 41 #[.val (.ref o0_), .val (.int (1 : Int32)), .val (.ref o1_), .val (.int (1 : Int32)), .val (.int (1 : Int32)), .val (.int (1 : Int32)), .val (.int x0_)] [])) _
    refine XS.goto X2.here hx rfl (pc0 := 41) (pc' := 3) rfl (hb hby d4_41) (by decide) (by decide) ?_
    show Steps p.tables e below (T2.setTop (mkF m 3 #[.val (.ref o0_), .val (.int (1 : Int32)), .val (.ref o1_), .val (.int (1 : Int32)), .val (.int (1 : Int32)), .val (.int (1 : Int32)), .val (.int x0_)] [])) _
    refine XS.iload X2.here hx rfl (hb hby d4_3) rfl ?_
    show Steps p.tables e below (T2.setTop (mkF m 5 #[.val (.ref o0_), .val (.int (1 : Int32)), .val (.ref o1_), .val (.int (1 : Int32)), .val (.int (1 : Int32)), .val (.int (1 : Int32)), .val (.int x0_)] [(.int (1 : Int32))])) _
    refine XS.iload X2.here hx rfl (hb hby d4_5) rfl ?_
    show Steps p.tables e below (T2.setTop (mkF m 7 #[.val (.ref o0_), .val (.int (1 : Int32)), .val (.ref o1_), .val (.int (1 : Int32)), .val (.int (1 : Int32)), .val (.int (1 : Int32)), .val (.int x0_)] [(.int (1 : Int32)), (.int (1 : Int32))])) _
    refine XS.icmpYes X2.here hx rfl (pc0 := 7) (pc' := 44) rfl (hb hby d4_7) rfl (flt (by decide : ¬ ((1 : Int32) < (1 : Int32)))).2.1 (by decide) (by decide) ?_
    show Steps p.tables e below (T2.setTop (mkF m 44 #[.val (.ref o0_), .val (.int (1 : Int32)), .val (.ref o1_), .val (.int (1 : Int32)), .val (.int (1 : Int32)), .val (.int (1 : Int32)), .val (.int x0_)] [])) _
    refine XS.iload X2.here hx rfl (hb hby d4_44) rfl ?_
    exact kt
  have f8 : Keep h0 h2 [o1_] := K0.wr W2 (Or.inl (List.mem_of_getElem? (i := 0) rfl))
  have f9 : Exa Z h2 o1_ "[B" := P4.wr W2
  obtain ⟨fs, hr, hrun, hended, hW, hsame⟩ := X2.leave (v := some (.int (1 : Int32))) (fun h => by rw [Bd.returns] at h; cases h)
  refine ⟨_, _, pre6 _ (retOut X2 hx Bd.returns rfl (Or.inl ⟨rfl, Or.inl rfl, _, rfl⟩) (hb hby d4_46) hr), hrun, hended, _, _, rfl, ?_, ⟨_, rfl⟩, hW, hsame.mono (by decide) (by decide)⟩
  show Qcompress5 Z o0_ o1_ ko0_ x0_ ko1_ h0 n0 _ T2.heap _
  rw [e2]
  exact ⟨rfl, N3, f8, f5, f9⟩
theorem pd_0 : parseMethodDescriptor "([CI[BII)I" = some ⟨[(.array .char), .int, (.array .byte), .int, .int], some .int⟩ := by decide +kernel
theorem d3_12 : decode jdk_52_method_16_code 12 = .ok (.istore 4, 2) := by decide +kernel
theorem d3_14 : decode jdk_52_method_16_code 14 = .ok (.iload 4, 2) := by decide +kernel
theorem d3_16 : decode jdk_52_method_16_code 16 = .ok (.iload_n 2, 1) := by decide +kernel
theorem d3_17 : decode jdk_52_method_16_code 17 = .ok (.if_icmp .eq 40, 3) := by decide +kernel
theorem d3_57 : decode jdk_52_method_16_code 57 = .ok (.aload_n 3, 1) := by decide +kernel
theorem d3_58 : decode jdk_52_method_16_code 58 = .ok (.areturn, 1) := by decide +kernel
theorem efcompress4 (m : MethodId) (o0_ : Addr) : entryFrame m #[(.ref o0_), (.int (0 : Int32)), (.int (1 : Int32))] 6 = mkF m 0 #[.val (.ref o0_), .val (.int (0 : Int32)), .val (.int (1 : Int32)), .unset, .unset, .unset] [] := by first | (simp [entryFrame, mkF, argsToLocals, Value.category]; done) | rfl
def Qcompress4 (Z : State) (o0_ : Addr) (ko0_ : ClassId) (x0_ : Int32) (h0 : Heap) (n0 : Nat) (v : Option Value) (h : Heap) (L : List Loc) : Prop := ∃ k1 : ClassId, ∃ nb1 : Addr, v = some (.ref nb1) ∧ Fr n0 L ∧ Keep h0 h [] ∧ h0.size ≤ nb1 ∧ Arv Z h nb1 k1 .byte (1 : Int32) [(.int (x0_.toInt8.toInt32))] (.int (0 : Int32)) ∧ Exa Z h nb1 "[B"
set_option maxRecDepth 65536 in
set_option maxHeartbeats 40000000 in
theorem rmcompress4 (l : Launch) (Z : State) (a0 : Array Value) (hw : ∀ d ∈ tables_1, d.before a0 Z = true) (ws : List Jvm.Cond) (o0_ : Addr) (ko0_ : ClassId) (x0_ : Int32) (h0 : Heap) (n0 : Nat) (O0 : Old Z n0 h0) (ha0 : ¬ ((255 : Int32) < x0_)) (P1 : Arv Z h0 o0_ ko0_ .char (1 : Int32) [(.int x0_)] (.int (0 : Int32))) (P2 : Exa Z h0 o0_ "[C") :
    MetFree l (⟨"java/lang/StringUTF16", "compress", "([CII)[B"⟩ : MethodName) (head1 (Jvm.Cond.code (⟨"java/lang/StringUTF16", "compress", "([CII)[B"⟩ : MethodName) jdk_52_method_16_code 6 (some (.array .byte)) :: ws) ({ frames := 1, cells := 1, slots := 1, locals := 18 } : Room)) (fun a U => a = #[(.ref o0_), (.int (0 : Int32)), (.int (1 : Int32))] ∧ Z.Warmed39 U.vm ∧ U.heap = h0) (fun _ _ _ _ _ => True) (fun _ U o U' => ∃ v L, o = .returned v ∧ Qcompress4 Z o0_ ko0_ x0_ h0 n0 v U'.heap L ∧ FrameEnd U o U' L ({ frames := 1, cells := 1, slots := 1, locals := 18 } : Room).cells ({ frames := 1, cells := 1, slots := 1, locals := 18 } : Room).slots) := by
  refine MetFree.of_bodySF (plainFor_of_name pn_0) hisR ?_
  intro p e s m args below meth c s₁ Bd hml0 hP hK
  obtain ⟨rfl, hZ, hh⟩ := hP
  have hx := Bd.exec
  have hby := Bd.bytes
  have hml : c.maxLocals = 6 := hml0
  have hown : s.vm.findClass "java/lang/StringUTF16" = some m.cls := findClass_of_methodNamed Bd.named
  have hnm := (name_of_methodNamed Bd.named Bd.method).1
  have X0 : Stand p l e ({ frames := 1, cells := 1, slots := 1, locals := 18 } : Room) s m #[(.ref o0_), (.int (0 : Int32)), (.int (1 : Int32))] below meth c s₁ [] 0 0 := Stand.of_body Bd
  have e0 : s₁.heap = h0 := by rw [← hh, Bd.state]; rfl
  have N0 := Fr.nil n0
  have pre0 : ∀ t, Steps p.tables e below (s₁.setTop (mkF m 0 #[.val (.ref o0_), .val (.int (0 : Int32)), .val (.int (1 : Int32)), .unset, .unset, .unset] [])) t → Steps p.tables e below (s₁.setTop (entryFrame m #[(.ref o0_), (.int (0 : Int32)), (.int (1 : Int32))] 6)) t := fun t k => castTop (efcompress4 m o0_) k
  have K0 : Keep h0 h0 [] := Keep.refl _ _
  obtain ⟨T1, h1, k1, X1, e1, E1, A1, Z1, st1⟩ := newPE X0 hx hZ (hw _ (List.mem_of_getElem? (i := 20) rfl)) e0 (g := (mkF m 1 #[.val (.ref o0_), .val (.int (0 : Int32)), .val (.int (1 : Int32)), .unset, .unset, .unset] [(.int (1 : Int32))])) rfl (hb hby d3_1) rfl (by decide) (cap := 1) (by decide) (by decide) (by decide) (by decide) (ad := "[B") (by decide)
  obtain ⟨b1, g1⟩ : ∃ z, z = h0.size := ⟨_, rfl⟩
  rw [← g1] at A1 Z1 st1
  have ge2 : n0 ≤ b1 := Nat.le_trans (Nat.le_trans (Nat.le_of_eq O0.1.symm) O0.2.1) (Nat.le_of_eq g1.symm)
  have sz3 : h0.size ≤ b1 := Nat.le_trans K0.1 (Nat.le_of_eq g1.symm)
  have f4 : Arv Z h1 b1 k1 .byte (1 : Int32) [(.int (0 : Int32))] (.int (0 : Int32)) := (Arv.new A1 (by decide)).pad (pad_rep [] (.int (0 : Int32)) 1)
  have f6 : Arv Z h1 o0_ ko0_ .char (1 : Int32) [(.int x0_)] (.int (0 : Int32)) := P1.ext E1
  have f7 : Exa Z h1 o0_ "[C" := P2.ext E1
  have f8 : Old Z n0 h1 := O0.ext E1
  obtain ⟨_, _, ⟨T5, L5, k5, n5⟩, -, X5, ⟨Lc5, hQ5, l5, y5, z5⟩, st5⟩ := Jvm.LawKit.callS X1 hx (y := (⟨"java/lang/StringUTF16", "compress", "([CI[BII)I"⟩ : MethodName)) hown (mvT hZ (hw _ (List.mem_of_getElem? (i := 21) rfl))) (mvT hZ (hw _ (List.mem_of_getElem? (i := 22) rfl))) (mvT hZ (hw _ (List.mem_of_getElem? (i := 18) rfl))) (mvT hZ (hw _ (List.mem_of_getElem? (i := 23) rfl))) (by decide) (backOf (W := 0) (rmcompress5 l Z a0 hw [] o0_ b1 ko0_ x0_ k1 h1 n0 f8 ha0 f6 f7 f4 Z1 ge2) hZ (hw _ (List.mem_of_getElem? (i := 23) rfl)) (hw _ (List.mem_of_getElem? (i := 18) rfl)) (by decide) (by decide)) (g := (mkF m 9 #[.val (.ref o0_), .val (.int (0 : Int32)), .val (.int (1 : Int32)), .val (.ref b1), .unset, .unset] [(.int (1 : Int32)), (.int (0 : Int32)), (.ref b1), (.int (0 : Int32)), (.ref o0_)])) rfl (by rw [hml]; rfl) (argsL := [(.ref o0_), (.int (0 : Int32)), (.ref b1), (.int (0 : Int32)), (.int (1 : Int32))]) (rest := []) (lenOf pd_0 rfl) rfl (by show 2 * 0 + _ ≤ _; exact Nat.le_of_eq rfl) (hb hby d3_9) (fun _ _ => ⟨rfl, e1, (by decide : 1 + 0 ≤ _), (by decide : 1 + 0 ≤ _)⟩)
  dsimp only [Pt.U, Pt.locs, Pt.cells, Pt.slots] at X5 l5 y5 z5 st5 hQ5
  subst l5 y5 z5
  obtain ⟨h5, e5⟩ : ∃ z, T5.heap = z := ⟨_, rfl⟩
  rw [e5] at hQ5
  obtain ⟨rfl, N5q, K5, g5_0, g5_1⟩ := hQ5
  have N9 := Fr.app N0 N5q
  have pre10 : ∀ t, Steps p.tables e below (T5.setTop (mkF m 58 #[.val (.ref o0_), .val (.int (0 : Int32)), .val (.int (1 : Int32)), .val (.ref b1), .val (.int (1 : Int32)), .unset] [(.ref b1)])) t → Steps p.tables e below (s₁.setTop (entryFrame m #[(.ref o0_), (.int (0 : Int32)), (.int (1 : Int32))] 6)) t := by
    intro t kt
    refine pre0 t ?_
    show Steps p.tables e below (s₁.setTop (mkF m 0 #[.val (.ref o0_), .val (.int (0 : Int32)), .val (.int (1 : Int32)), .unset, .unset, .unset] [])) _
    refine XS.iloadN X0.here hx rfl (hb hby d3_0) rfl ?_
    show Steps p.tables e below (s₁.setTop (mkF m 1 #[.val (.ref o0_), .val (.int (0 : Int32)), .val (.int (1 : Int32)), .unset, .unset, .unset] [(.int (1 : Int32))])) _
    refine st1 _ ?_
    show Steps p.tables e below (T1.setTop (mkF m 3 #[.val (.ref o0_), .val (.int (0 : Int32)), .val (.int (1 : Int32)), .unset, .unset, .unset] [(.ref b1)])) _
    refine XS.astoreN X1.here hx rfl (hb hby d3_3) rfl rfl (l' := #[.val (.ref o0_), .val (.int (0 : Int32)), .val (.int (1 : Int32)), .val (.ref b1), .unset, .unset]) rfl ?_
    show Steps p.tables e below (T1.setTop (mkF m 4 #[.val (.ref o0_), .val (.int (0 : Int32)), .val (.int (1 : Int32)), .val (.ref b1), .unset, .unset] [])) _
    refine XS.aloadN X1.here hx rfl (hb hby d3_4) rfl rfl ?_
    show Steps p.tables e below (T1.setTop (mkF m 5 #[.val (.ref o0_), .val (.int (0 : Int32)), .val (.int (1 : Int32)), .val (.ref b1), .unset, .unset] [(.ref o0_)])) _
    refine XS.iloadN X1.here hx rfl (hb hby d3_5) rfl ?_
    show Steps p.tables e below (T1.setTop (mkF m 6 #[.val (.ref o0_), .val (.int (0 : Int32)), .val (.int (1 : Int32)), .val (.ref b1), .unset, .unset] [(.int (0 : Int32)), (.ref o0_)])) _
    refine XS.aloadN X1.here hx rfl (hb hby d3_6) rfl rfl ?_
    show Steps p.tables e below (T1.setTop (mkF m 7 #[.val (.ref o0_), .val (.int (0 : Int32)), .val (.int (1 : Int32)), .val (.ref b1), .unset, .unset] [(.ref b1), (.int (0 : Int32)), (.ref o0_)])) _
    refine XS.iconst X1.here hx rfl (hb hby d3_7) ?_
    show Steps p.tables e below (T1.setTop (mkF m 8 #[.val (.ref o0_), .val (.int (0 : Int32)), .val (.int (1 : Int32)), .val (.ref b1), .unset, .unset] [(.int (0 : Int32)), (.ref b1), (.int (0 : Int32)), (.ref o0_)])) _
    refine XS.iloadN X1.here hx rfl (hb hby d3_8) rfl ?_
    show Steps p.tables e below (T1.setTop (mkF m 9 #[.val (.ref o0_), .val (.int (0 : Int32)), .val (.int (1 : Int32)), .val (.ref b1), .unset, .unset] [(.int (1 : Int32)), (.int (0 : Int32)), (.ref b1), (.int (0 : Int32)), (.ref o0_)])) _
    refine st5 _ ?_
    show Steps p.tables e below (T5.setTop (mkF m 12 #[.val (.ref o0_), .val (.int (0 : Int32)), .val (.int (1 : Int32)), .val (.ref b1), .unset, .unset] [(.int (1 : Int32))])) _
    refine XS.istore X5.here hx rfl (hb hby d3_12) rfl (l' := #[.val (.ref o0_), .val (.int (0 : Int32)), .val (.int (1 : Int32)), .val (.ref b1), .val (.int (1 : Int32)), .unset]) rfl ?_
    show Steps p.tables e below (T5.setTop (mkF m 14 #[.val (.ref o0_), .val (.int (0 : Int32)), .val (.int (1 : Int32)), .val (.ref b1), .val (.int (1 : Int32)), .unset] [])) _
    refine XS.iload X5.here hx rfl (hb hby d3_14) rfl ?_
    show Steps p.tables e below (T5.setTop (mkF m 16 #[.val (.ref o0_), .val (.int (0 : Int32)), .val (.int (1 : Int32)), .val (.ref b1), .val (.int (1 : Int32)), .unset] [(.int (1 : Int32))])) _
    refine XS.iloadN X5.here hx rfl (hb hby d3_16) rfl ?_
    show Steps p.tables e below (T5.setTop (mkF m 17 #[.val (.ref o0_), .val (.int (0 : Int32)), .val (.int (1 : Int32)), .val (.ref b1), .val (.int (1 : Int32)), .unset] [(.int (1 : Int32)), (.int (1 : Int32))])) _
    refine XS.icmpYes X5.here hx rfl (pc0 := 17) (pc' := 57) rfl (hb hby d3_17) rfl (teq (by decide : (1 : Int32) = (1 : Int32))).1 (by decide) (by decide) ?_
    show Steps p.tables e below (T5.setTop (mkF m 57 #[.val (.ref o0_), .val (.int (0 : Int32)), .val (.int (1 : Int32)), .val (.ref b1), .val (.int (1 : Int32)), .unset] [])) _
    refine XS.aloadN X5.here hx rfl (hb hby d3_57) rfl rfl ?_
    exact kt
  have f12 : Keep h0 h1 [] := K0.ext E1
  have f13 : Keep h0 h5 [] := f12.trans K5 (allS (Or.inr sz3) all0)
  obtain ⟨fs, hr, hrun, hended, hW, hsame⟩ := X5.leave (v := some (.ref b1)) (fun h => by rw [Bd.returns] at h; cases h)
  refine ⟨_, _, pre10 _ (retOut X5 hx Bd.returns rfl (Or.inr (Or.inr (Or.inr (Or.inr ⟨rfl, rfl, rfl⟩)))) (hb hby d3_58) hr), hrun, hended, _, _, rfl, ?_, ⟨_, rfl⟩, hW, hsame.mono (by decide) (by decide)⟩
  show Qcompress4 Z o0_ ko0_ x0_ h0 n0 _ T5.heap _
  rw [e5]
  exact ⟨k1, b1, rfl, N9, f13, sz3, g5_0, g5_1⟩
theorem pd_1 : parseMethodDescriptor "([CII)[B" = some ⟨[(.array .char), .int, .int], some (.array .byte)⟩ := by decide +kernel
theorem d2_39 : decode jdk_42_method_149_code 39 = .ok (.astore 5, 2) := by decide +kernel
theorem d2_41 : decode jdk_42_method_149_code 41 = .ok (.aload_n 0, 1) := by decide +kernel
theorem d2_42 : decode jdk_42_method_149_code 42 = .ok (.aload 5, 2) := by decide +kernel
theorem d2_44 : decode jdk_42_method_149_code 44 = .ok (.iload_n 3, 1) := by decide +kernel
theorem d2_45 : decode jdk_42_method_149_code 45 = .ok (.invokestatic 47, 3) := by decide +kernel
theorem d5_0 : decode jdk_52_method_15_code 0 = .ok (.iload_n 1, 1) := by decide +kernel
theorem d5_1 : decode jdk_52_method_15_code 1 = .ok (.aload_n 0, 1) := by decide +kernel
theorem d5_2 : decode jdk_52_method_15_code 2 = .ok (.arraylength, 1) := by decide +kernel
theorem d5_3 : decode jdk_52_method_15_code 3 = .ok (.isub, 1) := by decide +kernel
theorem d5_4 : decode jdk_52_method_15_code 4 = .ok (.bipush 31, 2) := by decide +kernel
theorem d5_6 : decode jdk_52_method_15_code 6 = .ok (.iushr, 1) := by decide +kernel
theorem d5_7 : decode jdk_52_method_15_code 7 = .ok (.i2b, 1) := by decide +kernel
theorem d5_8 : decode jdk_52_method_15_code 8 = .ok (.ireturn, 1) := by decide +kernel
theorem efcoderFromArrayLen6 (m : MethodId) (o0_ : Addr) : entryFrame m #[(.ref o0_), (.int (1 : Int32))] 2 = mkF m 0 #[.val (.ref o0_), .val (.int (1 : Int32))] [] := by first | (simp [entryFrame, mkF, argsToLocals, Value.category]; done) | rfl
def QcoderFromArrayLen6 (Z : State) (o0_ : Addr) (ko0_ : ClassId) (x0_ : Int32) (h0 : Heap) (n0 : Nat) (v : Option Value) (h : Heap) (L : List Loc) : Prop := v = some (.int (0 : Int32)) ∧ Fr n0 L ∧ h = h0
set_option maxRecDepth 65536 in
set_option maxHeartbeats 40000000 in
theorem rmcoderFromArrayLen6 (l : Launch) (Z : State) (a0 : Array Value) (hw : ∀ d ∈ tables_1, d.before a0 Z = true) (ws : List Jvm.Cond) (o0_ : Addr) (ko0_ : ClassId) (x0_ : Int32) (h0 : Heap) (n0 : Nat) (O0 : Old Z n0 h0) (P0 : Arv Z h0 o0_ ko0_ .byte (1 : Int32) [(.int x0_)] (.int (0 : Int32))) (P1 : Exa Z h0 o0_ "[B") :
    MetFree l (⟨"java/lang/StringUTF16", "coderFromArrayLen", "([BI)B"⟩ : MethodName) (head1 (Jvm.Cond.code (⟨"java/lang/StringUTF16", "coderFromArrayLen", "([BI)B"⟩ : MethodName) jdk_52_method_15_code 2 (some .byte) :: ws) ({ frames := 0, cells := 0, slots := 0, locals := 0 } : Room)) (fun a U => a = #[(.ref o0_), (.int (1 : Int32))] ∧ Z.Warmed39 U.vm ∧ U.heap = h0) (fun _ _ _ _ _ => True) (fun _ U o U' => ∃ v L, o = .returned v ∧ QcoderFromArrayLen6 Z o0_ ko0_ x0_ h0 n0 v U'.heap L ∧ FrameEnd U o U' L ({ frames := 0, cells := 0, slots := 0, locals := 0 } : Room).cells ({ frames := 0, cells := 0, slots := 0, locals := 0 } : Room).slots) := by
  refine MetFree.of_bodySF (plainFor_of_name pn_0) hisR ?_
  intro p e s m args below meth c s₁ Bd hml0 hP hK
  obtain ⟨rfl, hZ, hh⟩ := hP
  have hx := Bd.exec
  have hby := Bd.bytes
  have hml : c.maxLocals = 2 := hml0
  have hown : s.vm.findClass "java/lang/StringUTF16" = some m.cls := findClass_of_methodNamed Bd.named
  have hnm := (name_of_methodNamed Bd.named Bd.method).1
  have X0 : Stand p l e ({ frames := 0, cells := 0, slots := 0, locals := 0 } : Room) s m #[(.ref o0_), (.int (1 : Int32))] below meth c s₁ [] 0 0 := Stand.of_body Bd
  have e0 : s₁.heap = h0 := by rw [← hh, Bd.state]; rfl
  have N0 := Fr.nil n0
  have pre0 : ∀ t, Steps p.tables e below (s₁.setTop (mkF m 0 #[.val (.ref o0_), .val (.int (1 : Int32))] [])) t → Steps p.tables e below (s₁.setTop (entryFrame m #[(.ref o0_), (.int (1 : Int32))] 2)) t := fun t k => castTop (efcoderFromArrayLen6 m o0_) k
  have K0 : Keep h0 h0 [] := Keep.refl _ _
  obtain ⟨c1, r1, q1, s1, z1, y1, G1⟩ := id P0
  have pre2 : ∀ t, Steps p.tables e below (s₁.setTop (mkF m 8 #[.val (.ref o0_), .val (.int (1 : Int32))] [(.int (0 : Int32))])) t → Steps p.tables e below (s₁.setTop (entryFrame m #[(.ref o0_), (.int (1 : Int32))] 2)) t := by
    intro t kt
    refine pre0 t ?_
    show Steps p.tables e below (s₁.setTop (mkF m 0 #[.val (.ref o0_), .val (.int (1 : Int32))] [])) _
    refine XS.iloadN X0.here hx rfl (hb hby d5_0) rfl ?_
    show Steps p.tables e below (s₁.setTop (mkF m 1 #[.val (.ref o0_), .val (.int (1 : Int32))] [(.int (1 : Int32))])) _
    refine XS.aloadN X0.here hx rfl (hb hby d5_1) rfl rfl ?_
    show Steps p.tables e below (s₁.setTop (mkF m 2 #[.val (.ref o0_), .val (.int (1 : Int32))] [(.ref o0_), (.int (1 : Int32))])) _
    refine X0.arraylength hx (by rw [e0]; exact r1.1) (State.isArrayOf_alike hZ.alike r1.2.1) (g := (mkF m 2 #[.val (.ref o0_), .val (.int (1 : Int32))] [(.ref o0_), (.int (1 : Int32))])) rfl rfl (hb hby d5_2) _ ?_
    rw [len_of s1 z1]
    show Steps p.tables e below (s₁.setTop (mkF m 3 #[.val (.ref o0_), .val (.int (1 : Int32))] [(.int (1 : Int32)), (.int (1 : Int32))])) _
    refine XS.isub X0.here hx rfl (hb hby d5_3) rfl ?_
    show Steps p.tables e below (s₁.setTop (mkF m 4 #[.val (.ref o0_), .val (.int (1 : Int32))] [(.int (0 : Int32))])) _
    refine XS.bipush X0.here hx rfl (hb hby d5_4) ?_
    show Steps p.tables e below (s₁.setTop (mkF m 6 #[.val (.ref o0_), .val (.int (1 : Int32))] [(.int (31 : Int32)), (.int (0 : Int32))])) _
    refine XS.iushr X0.here hx rfl (hb hby d5_6) rfl ?_
    show Steps p.tables e below (s₁.setTop (mkF m 7 #[.val (.ref o0_), .val (.int (1 : Int32))] [(.int (0 : Int32))])) _
    refine XS.i2b X0.here hx rfl (hb hby d5_7) rfl ?_
    exact kt
  obtain ⟨fs, hr, hrun, hended, hW, hsame⟩ := X0.leave (v := some (.int (0 : Int32))) (fun h => by rw [Bd.returns] at h; cases h)
  refine ⟨_, _, pre2 _ (retN X0 hx (t := .byte) Bd.returns (by simp) (hb hby d5_8) hr), hrun, hended, _, _, rfl, ?_, ⟨_, rfl⟩, hW, hsame.mono (by decide) (by decide)⟩
  show QcoderFromArrayLen6 Z o0_ ko0_ x0_ h0 n0 _ s₁.heap _
  rw [e0]
  exact ⟨rfl, N0, rfl⟩
theorem pd_2 : parseMethodDescriptor "([BI)B" = some ⟨[(.array .byte), .int], some .byte⟩ := by decide +kernel
theorem d2_48 : decode jdk_42_method_149_code 48 = .ok (.putfield 15, 3) := by decide +kernel
theorem d2_51 : decode jdk_42_method_149_code 51 = .ok (.aload_n 0, 1) := by decide +kernel
theorem d2_52 : decode jdk_42_method_149_code 52 = .ok (.aload 5, 2) := by decide +kernel
theorem d2_54 : decode jdk_42_method_149_code 54 = .ok (.putfield 9, 3) := by decide +kernel
theorem d2_57 : decode jdk_42_method_149_code 57 = .ok (.return_, 1) := by decide +kernel
theorem pn_1 : plainName "java/lang/String" = true := by first | (simp [plainName, overriddenIn]; done) | decide +kernel
theorem efinit3 (m : MethodId) (o0_ : Addr) (o1_ : Addr) : entryFrame m #[(.ref o0_), (.ref o1_), (.int (0 : Int32)), (.int (1 : Int32)), .null] 6 = mkF m 0 #[.val (.ref o0_), .val (.ref o1_), .val (.int (0 : Int32)), .val (.int (1 : Int32)), .val .null, .unset] [] := by first | (simp [entryFrame, mkF, argsToLocals, Value.category]; done) | rfl
def Qinit3 (Z : State) (o0_ : Addr) (o1_ : Addr) (ko1_ : ClassId) (x0_ : Int32) (x1_ : Int32) (h0 : Heap) (n0 : Nat) (v : Option Value) (h : Heap) (L : List Loc) : Prop := ∃ k1_3 : ClassId, ∃ nnb1_3 : Addr, v = none ∧ Fr n0 L ∧ Keep h0 h [o0_] ∧ h0.size ≤ nnb1_3 ∧ Exa Z h o0_ "java/lang/String" ∧ Fld Z h o0_ "java/lang/String" "coder" "B" (.int (0 : Int32)) ∧ Fld Z h o0_ "java/lang/String" "value" "[B" (.ref nnb1_3) ∧ Arv Z h nnb1_3 k1_3 .byte (1 : Int32) [(.int (x0_.toInt8.toInt32))] (.int (0 : Int32)) ∧ Exa Z h nnb1_3 "[B"
set_option maxRecDepth 65536 in
set_option maxHeartbeats 40000000 in
theorem rminit3 (l : Launch) (Z : State) (a0 : Array Value) (hw : ∀ d ∈ tables_1, d.before a0 Z = true) (ws : List Jvm.Cond) (o0_ : Addr) (o1_ : Addr) (ko1_ : ClassId) (x0_ : Int32) (x1_ : Int32) (h0 : Heap) (n0 : Nat) (O0 : Old Z n0 h0) (ha0 : ¬ ((255 : Int32) < x0_)) (P1 : Exa Z h0 o0_ "java/lang/String") (P2 : Fld Z h0 o0_ "java/lang/String" "coder" "B" (.int (0 : Int32))) (P3 : Fld Z h0 o0_ "java/lang/String" "value" "[B" .null) (P4 : Arv Z h0 o1_ ko1_ .char (1 : Int32) [(.int x0_)] (.int (0 : Int32))) (P5 : Exa Z h0 o1_ "[C") (P6 : ¬ (x1_ = (0 : Int32))) (P7 : Sta Z Z.heap "java/lang/String" "COMPACT_STRINGS" "Z" (.int x1_)) (P8 : n0 ≤ o0_) :
    MetFree l (⟨"java/lang/String", "<init>", "([CIILjava/lang/Void;)V"⟩ : MethodName) (head1 (Jvm.Cond.code (⟨"java/lang/String", "<init>", "([CIILjava/lang/Void;)V"⟩ : MethodName) jdk_42_method_149_code 6 none :: ws) ({ frames := 2, cells := 1, slots := 1, locals := 35 } : Room)) (fun a U => a = #[(.ref o0_), (.ref o1_), (.int (0 : Int32)), (.int (1 : Int32)), .null] ∧ Z.Warmed39 U.vm ∧ U.heap = h0) (fun _ _ _ _ _ => True) (fun _ U o U' => ∃ v L, o = .returned v ∧ Qinit3 Z o0_ o1_ ko1_ x0_ x1_ h0 n0 v U'.heap L ∧ FrameEnd U o U' L ({ frames := 2, cells := 1, slots := 1, locals := 35 } : Room).cells ({ frames := 2, cells := 1, slots := 1, locals := 35 } : Room).slots) := by
  refine MetFree.of_bodySF (plainFor_of_name pn_1) hisR ?_
  intro p e s m args below meth c s₁ Bd hml0 hP hK
  obtain ⟨rfl, hZ, hh⟩ := hP
  have hx := Bd.exec
  have hby := Bd.bytes
  have hml : c.maxLocals = 6 := hml0
  have hown : s.vm.findClass "java/lang/String" = some m.cls := findClass_of_methodNamed Bd.named
  have hnm := (name_of_methodNamed Bd.named Bd.method).1
  have X0 : Stand p l e ({ frames := 2, cells := 1, slots := 1, locals := 35 } : Room) s m #[(.ref o0_), (.ref o1_), (.int (0 : Int32)), (.int (1 : Int32)), .null] below meth c s₁ [] 0 0 := Stand.of_body Bd
  have e0 : s₁.heap = h0 := by rw [← hh, Bd.state]; rfl
  have N0 := Fr.nil n0
  have pre0 : ∀ t, Steps p.tables e below (s₁.setTop (mkF m 0 #[.val (.ref o0_), .val (.ref o1_), .val (.int (0 : Int32)), .val (.int (1 : Int32)), .val .null, .unset] [])) t → Steps p.tables e below (s₁.setTop (entryFrame m #[(.ref o0_), (.ref o1_), (.int (0 : Int32)), (.int (1 : Int32)), .null] 6)) t := fun t k => castTop (efinit3 m o0_ o1_) k
  have K0 : Keep h0 h0 [o0_] := Keep.refl _ _
  obtain ⟨T1, X1, e1, st1⟩ := initO X0 hx hZ hown (hw _ (List.mem_of_getElem? (i := 12) rfl)) (hw _ (List.mem_of_getElem? (i := 13) rfl)) (hw _ (List.mem_of_getElem? (i := 14) rfl)) e0 (g := (mkF m 1 #[.val (.ref o0_), .val (.ref o1_), .val (.int (0 : Int32)), .val (.int (1 : Int32)), .val .null, .unset] [(.ref o0_)])) rfl (by rw [hml]; rfl) rfl (hb hby d2_1) (by decide) (W := 0) (by show 2 * 0 + _ ≤ _; exact Nat.le_of_eq rfl) (by decide)
  obtain ⟨T2, X2, e2, st2⟩ := getS2 X1 hx hZ hown (host := "") (Or.inl (hw _ (List.mem_of_getElem? (i := 15) rfl))) Via.refl e1 (P7.ext O0.2) (g := (mkF m 27 #[.val (.ref o0_), .val (.ref o1_), .val (.int (0 : Int32)), .val (.int (1 : Int32)), .val .null, .unset] [])) rfl (hb hby d2_27)
  obtain ⟨_, _, ⟨T3, L3, k3, n3⟩, -, X3, ⟨Lc3, hQ3, l3, y3, z3⟩, st3⟩ := Jvm.LawKit.callS X2 hx (y := (⟨"java/lang/StringUTF16", "compress", "([CII)[B"⟩ : MethodName)) hown (mvT hZ (hw _ (List.mem_of_getElem? (i := 16) rfl))) (mvT hZ (hw _ (List.mem_of_getElem? (i := 17) rfl))) (mvT hZ (hw _ (List.mem_of_getElem? (i := 18) rfl))) (mvT hZ (hw _ (List.mem_of_getElem? (i := 19) rfl))) (by decide) (backOf (W := 0) (rmcompress4 l Z a0 hw [] o1_ ko1_ x0_ h0 n0 O0 ha0 P4 P5) hZ (hw _ (List.mem_of_getElem? (i := 19) rfl)) (hw _ (List.mem_of_getElem? (i := 18) rfl)) (by decide) (by decide)) (g := (mkF m 36 #[.val (.ref o0_), .val (.ref o1_), .val (.int (0 : Int32)), .val (.int (1 : Int32)), .val .null, .unset] [(.int (1 : Int32)), (.int (0 : Int32)), (.ref o1_)])) rfl (by rw [hml]; rfl) (argsL := [(.ref o1_), (.int (0 : Int32)), (.int (1 : Int32))]) (rest := []) (lenOf pd_1 rfl) rfl (by show 2 * 0 + _ ≤ _; exact Nat.le_of_eq rfl) (hb hby d2_36) (fun _ _ => ⟨rfl, e2, (by decide : 0 + 1 ≤ _), (by decide : 0 + 1 ≤ _)⟩)
  dsimp only [Pt.U, Pt.locs, Pt.cells, Pt.slots] at X3 l3 y3 z3 st3 hQ3
  subst l3 y3 z3
  obtain ⟨h3, e3⟩ : ∃ z, T3.heap = z := ⟨_, rfl⟩
  rw [e3] at hQ3
  obtain ⟨k1_3, nb1_3, rfl, N3q, K3, sznb1_3, g3_0, g3_1⟩ := hQ3
  have N4 := Fr.app N0 N3q
  have ge5 : n0 ≤ nb1_3 := Nat.le_trans (Nat.le_trans (Nat.le_of_eq O0.1.symm) O0.2.1) sznb1_3
  have sz6 : h0.size ≤ nb1_3 := Nat.le_trans K0.1 sznb1_3
  have f8 : Old Z n0 h3 := O0.keep K3 all0
  obtain ⟨_, _, ⟨T7, L7, k7, n7⟩, -, X7, ⟨Lc7, hQ7, l7, y7, z7⟩, st7⟩ := Jvm.LawKit.callS X3 hx (y := (⟨"java/lang/StringUTF16", "coderFromArrayLen", "([BI)B"⟩ : MethodName)) hown (mvT hZ (hw _ (List.mem_of_getElem? (i := 24) rfl))) (mvT hZ (hw _ (List.mem_of_getElem? (i := 25) rfl))) (mvT hZ (hw _ (List.mem_of_getElem? (i := 18) rfl))) (mvT hZ (hw _ (List.mem_of_getElem? (i := 26) rfl))) (by decide) (backOf (W := 1) (rmcoderFromArrayLen6 l Z a0 hw [] nb1_3 k1_3 (x0_.toInt8.toInt32) h3 n0 f8 g3_0 g3_1) hZ (hw _ (List.mem_of_getElem? (i := 26) rfl)) (hw _ (List.mem_of_getElem? (i := 18) rfl)) (by decide) (by decide)) (g := (mkF m 45 #[.val (.ref o0_), .val (.ref o1_), .val (.int (0 : Int32)), .val (.int (1 : Int32)), .val .null, .val (.ref nb1_3)] [(.int (1 : Int32)), (.ref nb1_3), (.ref o0_)])) rfl (by rw [hml]; rfl) (argsL := [(.ref nb1_3), (.int (1 : Int32))]) (rest := [(.ref o0_)]) (lenOf pd_2 rfl) rfl (by show 2 * 0 + _ ≤ _; exact Nat.le_of_eq rfl) (hb hby d2_45) (fun _ _ => ⟨rfl, e3, (by decide : 1 + 0 ≤ _), (by decide : 1 + 0 ≤ _)⟩)
  dsimp only [Pt.U, Pt.locs, Pt.cells, Pt.slots] at X7 l7 y7 z7 st7 hQ7
  subst l7 y7 z7
  obtain ⟨h7, e7⟩ : ∃ z, T7.heap = z := ⟨_, rfl⟩
  rw [e7] at hQ7
  obtain ⟨rfl, N7q, hh7⟩ := hQ7
  have N9 := Fr.app N4 N7q
  have e7' : T7.heap = h3 := e7.trans hh7
  have f10 : Fld Z h3 o0_ "java/lang/String" "coder" "B" (.int (0 : Int32)) := P2.keep K3 nin0
  have f11 : Exa Z h3 o0_ "java/lang/String" := P1.keep K3
  obtain ⟨T12, h12, X12, e12, W12, st12⟩ := putF X7 hx hZ hown (host := "") (Or.inl (hw _ (List.mem_of_getElem? (i := 27) rfl))) Via.refl e7' f10 f11 (Or.inr ⟨(hw _ (List.mem_of_getElem? (i := 28) rfl)), rfl, hnm⟩) (hw _ (List.mem_of_getElem? (i := 3) rfl)) (ty := .byte) (by decide) rfl rfl (g := (mkF m 48 #[.val (.ref o0_), .val (.ref o1_), .val (.int (0 : Int32)), .val (.int (1 : Int32)), .val .null, .val (.ref nb1_3)] [(.int (0 : Int32)), (.ref o0_)])) rfl rfl (hb hby d2_48)
  have N13 := Fr.snoc X12 N9 P8
  have f14 : Fld Z h12 o0_ "java/lang/String" "coder" "B" (.int (0 : Int32)) := f10.same W12
  have f15 : Fld Z h3 o0_ "java/lang/String" "value" "[B" .null := P3.keep K3 nin0
  have f16 : Fld Z h12 o0_ "java/lang/String" "value" "[B" .null := f15.other W12 (Or.inr (slot_ne (Or.inr (hw _ (List.mem_of_getElem? (i := 30) rfl))) (Or.inr (hw _ (List.mem_of_getElem? (i := 28) rfl))) (by decide) (t := (.array .byte)) (t' := .byte) (by decide) (by decide)))
  have f17 : Exa Z h12 o0_ "java/lang/String" := f11.wr W12
  obtain ⟨T18, h18, X18, e18, W18, st18⟩ := putF X12 hx hZ hown (host := "") (Or.inl (hw _ (List.mem_of_getElem? (i := 29) rfl))) Via.refl e12 f16 f17 (Or.inr ⟨(hw _ (List.mem_of_getElem? (i := 30) rfl)), rfl, hnm⟩) (hw _ (List.mem_of_getElem? (i := 3) rfl)) (ty := (.array .byte)) (by decide) rfl rfl (g := (mkF m 54 #[.val (.ref o0_), .val (.ref o1_), .val (.int (0 : Int32)), .val (.int (1 : Int32)), .val .null, .val (.ref nb1_3)] [(.ref nb1_3), (.ref o0_)])) rfl rfl (hb hby d2_54)
  have N19 := Fr.snoc X18 N13 P8
  have f20 : Fld Z h18 o0_ "java/lang/String" "value" "[B" (.ref nb1_3) := f16.same W18
  have pre21 : ∀ t, Steps p.tables e below (T18.setTop (mkF m 57 #[.val (.ref o0_), .val (.ref o1_), .val (.int (0 : Int32)), .val (.int (1 : Int32)), .val .null, .val (.ref nb1_3)] [])) t → Steps p.tables e below (s₁.setTop (entryFrame m #[(.ref o0_), (.ref o1_), (.int (0 : Int32)), (.int (1 : Int32)), .null] 6)) t := by
    intro t kt
    refine pre0 t ?_
    show Steps p.tables e below (s₁.setTop (mkF m 0 #[.val (.ref o0_), .val (.ref o1_), .val (.int (0 : Int32)), .val (.int (1 : Int32)), .val .null, .unset] [])) _
    refine XS.aloadN X0.here hx rfl (hb hby d2_0) rfl rfl ?_
    show Steps p.tables e below (s₁.setTop (mkF m 1 #[.val (.ref o0_), .val (.ref o1_), .val (.int (0 : Int32)), .val (.int (1 : Int32)), .val .null, .unset] [(.ref o0_)])) _
    refine st1 _ ?_
    show Steps p.tables e below (T1.setTop (mkF m 4 #[.val (.ref o0_), .val (.ref o1_), .val (.int (0 : Int32)), .val (.int (1 : Int32)), .val .null, .unset] [])) _
    refine XS.iloadN X1.here hx rfl (hb hby d2_4) rfl ?_
    show Steps p.tables e below (T1.setTop (mkF m 5 #[.val (.ref o0_), .val (.ref o1_), .val (.int (0 : Int32)), .val (.int (1 : Int32)), .val .null, .unset] [(.int (1 : Int32))])) _
    refine XS.ifYes X1.here hx rfl (pc0 := 5) (pc' := 27) rfl (hb hby d2_5) rfl ((if0 _ _).trans (feq (by decide : ¬ ((1 : Int32) = (0 : Int32)))).2) (by decide) (by decide) ?_
    show Steps p.tables e below (T1.setTop (mkF m 27 #[.val (.ref o0_), .val (.ref o1_), .val (.int (0 : Int32)), .val (.int (1 : Int32)), .val .null, .unset] [])) _
    refine st2 _ ?_
    show Steps p.tables e below (T2.setTop (mkF m 30 #[.val (.ref o0_), .val (.ref o1_), .val (.int (0 : Int32)), .val (.int (1 : Int32)), .val .null, .unset] [(.int x1_)])) _
    refine XS.ifNo X2.here hx rfl (hb hby d2_30) rfl ((if0 _ _).trans (feq P6).1) ?_
    show Steps p.tables e below (T2.setTop (mkF m 33 #[.val (.ref o0_), .val (.ref o1_), .val (.int (0 : Int32)), .val (.int (1 : Int32)), .val .null, .unset] [])) _
    refine XS.aloadN X2.here hx rfl (hb hby d2_33) rfl rfl ?_
    show Steps p.tables e below (T2.setTop (mkF m 34 #[.val (.ref o0_), .val (.ref o1_), .val (.int (0 : Int32)), .val (.int (1 : Int32)), .val .null, .unset] [(.ref o1_)])) _
    refine XS.iloadN X2.here hx rfl (hb hby d2_34) rfl ?_
    show Steps p.tables e below (T2.setTop (mkF m 35 #[.val (.ref o0_), .val (.ref o1_), .val (.int (0 : Int32)), .val (.int (1 : Int32)), .val .null, .unset] [(.int (0 : Int32)), (.ref o1_)])) _
    refine XS.iloadN X2.here hx rfl (hb hby d2_35) rfl ?_
    show Steps p.tables e below (T2.setTop (mkF m 36 #[.val (.ref o0_), .val (.ref o1_), .val (.int (0 : Int32)), .val (.int (1 : Int32)), .val .null, .unset] [(.int (1 : Int32)), (.int (0 : Int32)), (.ref o1_)])) _
    refine st3 _ ?_
    show Steps p.tables e below (T3.setTop (mkF m 39 #[.val (.ref o0_), .val (.ref o1_), .val (.int (0 : Int32)), .val (.int (1 : Int32)), .val .null, .unset] [(.ref nb1_3)])) _
    refine XS.astore X3.here hx rfl (hb hby d2_39) rfl rfl (l' := #[.val (.ref o0_), .val (.ref o1_), .val (.int (0 : Int32)), .val (.int (1 : Int32)), .val .null, .val (.ref nb1_3)]) rfl ?_
    show Steps p.tables e below (T3.setTop (mkF m 41 #[.val (.ref o0_), .val (.ref o1_), .val (.int (0 : Int32)), .val (.int (1 : Int32)), .val .null, .val (.ref nb1_3)] [])) _
    refine XS.aloadN X3.here hx rfl (hb hby d2_41) rfl rfl ?_
    show Steps p.tables e below (T3.setTop (mkF m 42 #[.val (.ref o0_), .val (.ref o1_), .val (.int (0 : Int32)), .val (.int (1 : Int32)), .val .null, .val (.ref nb1_3)] [(.ref o0_)])) _
    refine XS.aload X3.here hx rfl (hb hby d2_42) rfl rfl ?_
    show Steps p.tables e below (T3.setTop (mkF m 44 #[.val (.ref o0_), .val (.ref o1_), .val (.int (0 : Int32)), .val (.int (1 : Int32)), .val .null, .val (.ref nb1_3)] [(.ref nb1_3), (.ref o0_)])) _
    refine XS.iloadN X3.here hx rfl (hb hby d2_44) rfl ?_
    show Steps p.tables e below (T3.setTop (mkF m 45 #[.val (.ref o0_), .val (.ref o1_), .val (.int (0 : Int32)), .val (.int (1 : Int32)), .val .null, .val (.ref nb1_3)] [(.int (1 : Int32)), (.ref nb1_3), (.ref o0_)])) _
    refine st7 _ ?_
    show Steps p.tables e below (T7.setTop (mkF m 48 #[.val (.ref o0_), .val (.ref o1_), .val (.int (0 : Int32)), .val (.int (1 : Int32)), .val .null, .val (.ref nb1_3)] [(.int (0 : Int32)), (.ref o0_)])) _
    refine st12 _ ?_
    show Steps p.tables e below (T12.setTop (mkF m 51 #[.val (.ref o0_), .val (.ref o1_), .val (.int (0 : Int32)), .val (.int (1 : Int32)), .val .null, .val (.ref nb1_3)] [])) _
    refine XS.aloadN X12.here hx rfl (hb hby d2_51) rfl rfl ?_
    show Steps p.tables e below (T12.setTop (mkF m 52 #[.val (.ref o0_), .val (.ref o1_), .val (.int (0 : Int32)), .val (.int (1 : Int32)), .val .null, .val (.ref nb1_3)] [(.ref o0_)])) _
    refine XS.aload X12.here hx rfl (hb hby d2_52) rfl rfl ?_
    show Steps p.tables e below (T12.setTop (mkF m 54 #[.val (.ref o0_), .val (.ref o1_), .val (.int (0 : Int32)), .val (.int (1 : Int32)), .val .null, .val (.ref nb1_3)] [(.ref nb1_3), (.ref o0_)])) _
    refine st18 _ ?_
    exact kt
  have f23 : Keep h0 h3 [o0_] := K0.trans K3 all0
  have f24 : Keep h0 h12 [o0_] := f23.wr W12 (Or.inl (List.mem_of_getElem? (i := 0) rfl))
  have f25 : Keep h0 h18 [o0_] := f24.wr W18 (Or.inl (List.mem_of_getElem? (i := 0) rfl))
  have f26 : Exa Z h18 o0_ "java/lang/String" := f17.wr W18
  have f27 : Fld Z h18 o0_ "java/lang/String" "coder" "B" (.int (0 : Int32)) := f14.other W18 (Or.inr (slot_ne (Or.inr (hw _ (List.mem_of_getElem? (i := 28) rfl))) (Or.inr (hw _ (List.mem_of_getElem? (i := 30) rfl))) (by decide) (t := .byte) (t' := (.array .byte)) (by decide) (by decide)))
  have ne29 : o0_ ≠ nb1_3 := Nat.ne_of_lt (Nat.lt_of_lt_of_le P1.lt sznb1_3)
  have f28 : Arv Z h12 nb1_3 k1_3 .byte (1 : Int32) [(.int (x0_.toInt8.toInt32))] (.int (0 : Int32)) := g3_0.other W12 (Ne.symm ne29)
  have f30 : Arv Z h18 nb1_3 k1_3 .byte (1 : Int32) [(.int (x0_.toInt8.toInt32))] (.int (0 : Int32)) := f28.other W18 (Ne.symm ne29)
  have f31 : Exa Z h12 nb1_3 "[B" := g3_1.wr W12
  have f32 : Exa Z h18 nb1_3 "[B" := f31.wr W18
  obtain ⟨fs, hr, hrun, hended, hW, hsame⟩ := X18.leave (v := none) (fun _ => rfl)
  refine ⟨_, _, pre21 _ (X18.returnOut hx Bd.returns (hb hby d2_57) hr), hrun, hended, _, _, rfl, ?_, ⟨_, rfl⟩, hW, hsame.mono (by decide) (by decide)⟩
  show Qinit3 Z o0_ o1_ ko1_ x0_ x1_ h0 n0 _ T18.heap _
  rw [e18]
  exact ⟨k1_3, nb1_3, rfl, N19, f25, sz6, f26, f27, f20, f30, f32⟩
theorem pd_3 : parseMethodDescriptor "([CIILjava/lang/Void;)V" = some ⟨[(.array .char), .int, .int, (.object "java/lang/Void")], none⟩ := by decide +kernel
theorem d1_9 : decode jdk_42_method_3_code 9 = .ok (.return_, 1) := by decide +kernel
theorem efinit1 (m : MethodId) (o0_ : Addr) (o1_ : Addr) : entryFrame m #[(.ref o0_), (.ref o1_)] 2 = mkF m 0 #[.val (.ref o0_), .val (.ref o1_)] [] := by first | (simp [entryFrame, mkF, argsToLocals, Value.category]; done) | rfl
def Qinit1 (Z : State) (o0_ : Addr) (o1_ : Addr) (ko1_ : ClassId) (x0_ : Int32) (x1_ : Int32) (h0 : Heap) (n0 : Nat) (v : Option Value) (h : Heap) (L : List Loc) : Prop := ∃ k1_3_2 : ClassId, ∃ nnnb1_3_2 : Addr, v = none ∧ Fr n0 L ∧ Keep h0 h [o0_] ∧ h0.size ≤ nnnb1_3_2 ∧ Exa Z h o0_ "java/lang/String" ∧ Fld Z h o0_ "java/lang/String" "coder" "B" (.int (0 : Int32)) ∧ Fld Z h o0_ "java/lang/String" "value" "[B" (.ref nnnb1_3_2) ∧ Arv Z h nnnb1_3_2 k1_3_2 .byte (1 : Int32) [(.int (x0_.toInt8.toInt32))] (.int (0 : Int32)) ∧ Exa Z h nnnb1_3_2 "[B"
set_option maxRecDepth 65536 in
set_option maxHeartbeats 40000000 in
theorem rminit1 (l : Launch) (Z : State) (a0 : Array Value) (hw : ∀ d ∈ tables_1, d.before a0 Z = true) (ws : List Jvm.Cond) (o0_ : Addr) (o1_ : Addr) (ko1_ : ClassId) (x0_ : Int32) (x1_ : Int32) (h0 : Heap) (n0 : Nat) (O0 : Old Z n0 h0) (ha0 : ¬ ((255 : Int32) < x0_)) (P1 : Exa Z h0 o0_ "java/lang/String") (P2 : Fld Z h0 o0_ "java/lang/String" "coder" "B" (.int (0 : Int32))) (P3 : Fld Z h0 o0_ "java/lang/String" "value" "[B" .null) (P4 : Arv Z h0 o1_ ko1_ .char (1 : Int32) [(.int x0_)] (.int (0 : Int32))) (P5 : Exa Z h0 o1_ "[C") (P6 : ¬ (x1_ = (0 : Int32))) (P7 : Sta Z Z.heap "java/lang/String" "COMPACT_STRINGS" "Z" (.int x1_)) (P8 : n0 ≤ o0_) :
    MetFree l (⟨"java/lang/String", "<init>", "([C)V"⟩ : MethodName) (head1 (Jvm.Cond.code (⟨"java/lang/String", "<init>", "([C)V"⟩ : MethodName) jdk_42_method_3_code 2 none :: ws) ({ frames := 3, cells := 1, slots := 1, locals := 52 } : Room)) (fun a U => a = #[(.ref o0_), (.ref o1_)] ∧ Z.Warmed39 U.vm ∧ U.heap = h0) (fun _ _ _ _ _ => True) (fun _ U o U' => ∃ v L, o = .returned v ∧ Qinit1 Z o0_ o1_ ko1_ x0_ x1_ h0 n0 v U'.heap L ∧ FrameEnd U o U' L ({ frames := 3, cells := 1, slots := 1, locals := 52 } : Room).cells ({ frames := 3, cells := 1, slots := 1, locals := 52 } : Room).slots) := by
  refine MetFree.of_bodySF (plainFor_of_name pn_1) hisR ?_
  intro p e s m args below meth c s₁ Bd hml0 hP hK
  obtain ⟨rfl, hZ, hh⟩ := hP
  have hx := Bd.exec
  have hby := Bd.bytes
  have hml : c.maxLocals = 2 := hml0
  have hown : s.vm.findClass "java/lang/String" = some m.cls := findClass_of_methodNamed Bd.named
  have hnm := (name_of_methodNamed Bd.named Bd.method).1
  have X0 : Stand p l e ({ frames := 3, cells := 1, slots := 1, locals := 52 } : Room) s m #[(.ref o0_), (.ref o1_)] below meth c s₁ [] 0 0 := Stand.of_body Bd
  have e0 : s₁.heap = h0 := by rw [← hh, Bd.state]; rfl
  have N0 := Fr.nil n0
  have pre0 : ∀ t, Steps p.tables e below (s₁.setTop (mkF m 0 #[.val (.ref o0_), .val (.ref o1_)] [])) t → Steps p.tables e below (s₁.setTop (entryFrame m #[(.ref o0_), (.ref o1_)] 2)) t := fun t k => castTop (efinit1 m o0_ o1_) k
  have K0 : Keep h0 h0 [o0_] := Keep.refl _ _
  obtain ⟨c1, r1, q1, s1, z1, y1, G1⟩ := id P4
  obtain ⟨_, _, ⟨T2, L2, k2, n2⟩, -, X2, ⟨Lc2, hQ2, l2, y2, z2⟩, st2⟩ := X0.specialBack hx (y := (⟨"java/lang/String", "<init>", "([CIILjava/lang/Void;)V"⟩ : MethodName)) rfl hown (mvT hZ (hw _ (List.mem_of_getElem? (i := 8) rfl))) (mvT hZ (hw _ (List.mem_of_getElem? (i := 9) rfl))) (mvT hZ (hw _ (List.mem_of_getElem? (i := 11) rfl))) (by decide) (backOf (W := 0) (rminit3 l Z a0 hw [] o0_ o1_ ko1_ x0_ x1_ h0 n0 O0 ha0 P1 P2 P3 P4 P5 P6 P7 P8) hZ (hw _ (List.mem_of_getElem? (i := 11) rfl)) (hw _ (List.mem_of_getElem? (i := 4) rfl)) (by decide) (by decide)) (g := (mkF m 6 #[.val (.ref o0_), .val (.ref o1_)] [.null, (.int (1 : Int32)), (.int (0 : Int32)), (.ref o1_), (.ref o0_)])) rfl (by rw [hml]; rfl) (Steps.refl _) (a := o0_) (argsL := [(.ref o1_), (.int (0 : Int32)), (.int (1 : Int32)), .null]) (rest := []) (lenOf pd_3 rfl) rfl (by show 2 * 0 + _ ≤ _; exact Nat.le_of_eq rfl) (hb hby d1_6) (fun _ _ => ⟨rfl, e0, (by decide : 0 + 1 ≤ _), (by decide : 0 + 1 ≤ _)⟩)
  dsimp only [Pt.U, Pt.locs, Pt.cells, Pt.slots] at X2 l2 y2 z2 st2 hQ2
  subst l2 y2 z2
  obtain ⟨h2, e2⟩ : ∃ z, T2.heap = z := ⟨_, rfl⟩
  rw [e2] at hQ2
  obtain ⟨k1_3_2, nnb1_3_2, rfl, N2q, K2, sznnb1_3_2, g2_0, g2_1, g2_2, g2_3, g2_4⟩ := hQ2
  have N3 := Fr.app N0 N2q
  have ge4 : n0 ≤ nnb1_3_2 := Nat.le_trans (Nat.le_trans (Nat.le_of_eq O0.1.symm) O0.2.1) sznnb1_3_2
  have sz5 : h0.size ≤ nnb1_3_2 := Nat.le_trans K0.1 sznnb1_3_2
  have pre6 : ∀ t, Steps p.tables e below (T2.setTop (mkF m 9 #[.val (.ref o0_), .val (.ref o1_)] [])) t → Steps p.tables e below (s₁.setTop (entryFrame m #[(.ref o0_), (.ref o1_)] 2)) t := by
    intro t kt
    refine pre0 t ?_
    show Steps p.tables e below (s₁.setTop (mkF m 0 #[.val (.ref o0_), .val (.ref o1_)] [])) _
    refine XS.aloadN X0.here hx rfl (hb hby d1_0) rfl rfl ?_
    show Steps p.tables e below (s₁.setTop (mkF m 1 #[.val (.ref o0_), .val (.ref o1_)] [(.ref o0_)])) _
    refine XS.aloadN X0.here hx rfl (hb hby d1_1) rfl rfl ?_
    show Steps p.tables e below (s₁.setTop (mkF m 2 #[.val (.ref o0_), .val (.ref o1_)] [(.ref o1_), (.ref o0_)])) _
    refine XS.iconst X0.here hx rfl (hb hby d1_2) ?_
    show Steps p.tables e below (s₁.setTop (mkF m 3 #[.val (.ref o0_), .val (.ref o1_)] [(.int (0 : Int32)), (.ref o1_), (.ref o0_)])) _
    refine XS.aloadN X0.here hx rfl (hb hby d1_3) rfl rfl ?_
    show Steps p.tables e below (s₁.setTop (mkF m 4 #[.val (.ref o0_), .val (.ref o1_)] [(.ref o1_), (.int (0 : Int32)), (.ref o1_), (.ref o0_)])) _
    refine X0.arraylength hx (by rw [e0]; exact r1.1) (State.isArrayOf_alike hZ.alike r1.2.1) (g := (mkF m 4 #[.val (.ref o0_), .val (.ref o1_)] [(.ref o1_), (.int (0 : Int32)), (.ref o1_), (.ref o0_)])) rfl rfl (hb hby d1_4) _ ?_
    rw [len_of s1 z1]
    show Steps p.tables e below (s₁.setTop (mkF m 5 #[.val (.ref o0_), .val (.ref o1_)] [(.int (1 : Int32)), (.int (0 : Int32)), (.ref o1_), (.ref o0_)])) _
    refine XS.aconstNull X0.here hx rfl (hb hby d1_5) ?_
    show Steps p.tables e below (s₁.setTop (mkF m 6 #[.val (.ref o0_), .val (.ref o1_)] [.null, (.int (1 : Int32)), (.int (0 : Int32)), (.ref o1_), (.ref o0_)])) _
    refine st2.trans ?_
    exact kt
  have f8 : Keep h0 h2 [o0_] := K0.trans K2 (allS (Or.inl (List.mem_of_getElem? (i := 0) rfl)) all0)
  obtain ⟨fs, hr, hrun, hended, hW, hsame⟩ := X2.leave (v := none) (fun _ => rfl)
  refine ⟨_, _, pre6 _ (X2.returnOut hx Bd.returns (hb hby d1_9) hr), hrun, hended, _, _, rfl, ?_, ⟨_, rfl⟩, hW, hsame.mono (by decide) (by decide)⟩
  show Qinit1 Z o0_ o1_ ko1_ x0_ x1_ h0 n0 _ T2.heap _
  rw [e2]
  exact ⟨k1_3_2, nnb1_3_2, rfl, N3, f8, sz5, g2_0, g2_1, g2_2, g2_3, g2_4⟩
theorem pd_4 : parseMethodDescriptor "([C)V" = some ⟨[(.array .char)], none⟩ := by decide +kernel
theorem d6_0 : decode prog_38_method_1_code 0 = .ok (.aload_n 0, 1) := by decide +kernel
theorem d6_1 : decode prog_38_method_1_code 1 = .ok (.invokespecial 1, 3) := by decide +kernel
theorem d7_0 : decode jdk_30_method_1_code 0 = .ok (.aload_n 0, 1) := by decide +kernel
theorem d7_1 : decode jdk_30_method_1_code 1 = .ok (.invokespecial 1, 3) := by decide +kernel
theorem d7_4 : decode jdk_30_method_1_code 4 = .ok (.return_, 1) := by decide +kernel
theorem pn_2 : plainName "java/lang/Record" = true := by first | (simp [plainName, overriddenIn]; done) | decide +kernel
theorem efinit8 (m : MethodId) (o0_ : Addr) : entryFrame m #[(.ref o0_)] 1 = mkF m 0 #[.val (.ref o0_)] [] := by first | (simp [entryFrame, mkF, argsToLocals, Value.category]; done) | rfl
def Qinit8 (Z : State) (o0_ : Addr) (h0 : Heap) (n0 : Nat) (v : Option Value) (h : Heap) (L : List Loc) : Prop := v = none ∧ Fr n0 L ∧ h = h0
set_option maxRecDepth 65536 in
set_option maxHeartbeats 40000000 in
theorem rminit8 (l : Launch) (Z : State) (a0 : Array Value) (hw : ∀ d ∈ tables_1, d.before a0 Z = true) (ws : List Jvm.Cond) (o0_ : Addr) (h0 : Heap) (n0 : Nat) (O0 : Old Z n0 h0) (P0 : Exa Z h0 o0_ "com/example/stackweave/stackweave/classfile/VerificationType") (P1 : Fld Z h0 o0_ "com/example/stackweave/stackweave/classfile/VerificationType" "tag" "I" (.int (0 : Int32))) (P2 : Fld Z h0 o0_ "com/example/stackweave/stackweave/classfile/VerificationType" "className" "Ljava/lang/String;" .null) (P3 : Fld Z h0 o0_ "com/example/stackweave/stackweave/classfile/VerificationType" "newOffset" "I" (.int (0 : Int32))) :
    MetFree l (⟨"java/lang/Record", "<init>", "()V"⟩ : MethodName) (head1 (Jvm.Cond.code (⟨"java/lang/Record", "<init>", "()V"⟩ : MethodName) jdk_30_method_1_code 1 none :: ws) ({ frames := 1, cells := 0, slots := 0, locals := 12 } : Room)) (fun a U => a = #[(.ref o0_)] ∧ Z.Warmed39 U.vm ∧ U.heap = h0) (fun _ _ _ _ _ => True) (fun _ U o U' => ∃ v L, o = .returned v ∧ Qinit8 Z o0_ h0 n0 v U'.heap L ∧ FrameEnd U o U' L ({ frames := 1, cells := 0, slots := 0, locals := 12 } : Room).cells ({ frames := 1, cells := 0, slots := 0, locals := 12 } : Room).slots) := by
  refine MetFree.of_bodySF (plainFor_of_name pn_2) hisR ?_
  intro p e s m args below meth c s₁ Bd hml0 hP hK
  obtain ⟨rfl, hZ, hh⟩ := hP
  have hx := Bd.exec
  have hby := Bd.bytes
  have hml : c.maxLocals = 1 := hml0
  have hown : s.vm.findClass "java/lang/Record" = some m.cls := findClass_of_methodNamed Bd.named
  have hnm := (name_of_methodNamed Bd.named Bd.method).1
  have X0 : Stand p l e ({ frames := 1, cells := 0, slots := 0, locals := 12 } : Room) s m #[(.ref o0_)] below meth c s₁ [] 0 0 := Stand.of_body Bd
  have e0 : s₁.heap = h0 := by rw [← hh, Bd.state]; rfl
  have N0 := Fr.nil n0
  have pre0 : ∀ t, Steps p.tables e below (s₁.setTop (mkF m 0 #[.val (.ref o0_)] [])) t → Steps p.tables e below (s₁.setTop (entryFrame m #[(.ref o0_)] 1)) t := fun t k => castTop (efinit8 m o0_) k
  have K0 : Keep h0 h0 [] := Keep.refl _ _
  obtain ⟨T1, X1, e1, st1⟩ := initO X0 hx hZ hown (hw _ (List.mem_of_getElem? (i := 42) rfl)) (hw _ (List.mem_of_getElem? (i := 13) rfl)) (hw _ (List.mem_of_getElem? (i := 14) rfl)) e0 (g := (mkF m 1 #[.val (.ref o0_)] [(.ref o0_)])) rfl (by rw [hml]; rfl) rfl (hb hby d7_1) (by decide) (W := 0) (by show 2 * 0 + _ ≤ _; exact Nat.le_of_eq rfl) (by decide)
  have pre2 : ∀ t, Steps p.tables e below (T1.setTop (mkF m 4 #[.val (.ref o0_)] [])) t → Steps p.tables e below (s₁.setTop (entryFrame m #[(.ref o0_)] 1)) t := by
    intro t kt
    refine pre0 t ?_
    show Steps p.tables e below (s₁.setTop (mkF m 0 #[.val (.ref o0_)] [])) _
    refine XS.aloadN X0.here hx rfl (hb hby d7_0) rfl rfl ?_
    show Steps p.tables e below (s₁.setTop (mkF m 1 #[.val (.ref o0_)] [(.ref o0_)])) _
    refine st1 _ ?_
    exact kt
  obtain ⟨fs, hr, hrun, hended, hW, hsame⟩ := X1.leave (v := none) (fun _ => rfl)
  refine ⟨_, _, pre2 _ (X1.returnOut hx Bd.returns (hb hby d7_4) hr), hrun, hended, _, _, rfl, ?_, ⟨_, rfl⟩, hW, hsame.mono (by decide) (by decide)⟩
  show Qinit8 Z o0_ h0 n0 _ T1.heap _
  rw [e1]
  exact ⟨rfl, N0, rfl⟩
theorem pd_5 : parseMethodDescriptor "()V" = some ⟨[], none⟩ := by decide +kernel
theorem d6_4 : decode prog_38_method_1_code 4 = .ok (.aload_n 0, 1) := by decide +kernel
theorem d6_5 : decode prog_38_method_1_code 5 = .ok (.iload_n 1, 1) := by decide +kernel
theorem d6_6 : decode prog_38_method_1_code 6 = .ok (.putfield 7, 3) := by decide +kernel
theorem d6_9 : decode prog_38_method_1_code 9 = .ok (.aload_n 0, 1) := by decide +kernel
theorem d6_10 : decode prog_38_method_1_code 10 = .ok (.aload_n 2, 1) := by decide +kernel
theorem d6_11 : decode prog_38_method_1_code 11 = .ok (.putfield 13, 3) := by decide +kernel
theorem d6_14 : decode prog_38_method_1_code 14 = .ok (.aload_n 0, 1) := by decide +kernel
theorem d6_15 : decode prog_38_method_1_code 15 = .ok (.iload_n 3, 1) := by decide +kernel
theorem d6_16 : decode prog_38_method_1_code 16 = .ok (.putfield 17, 3) := by decide +kernel
theorem d6_19 : decode prog_38_method_1_code 19 = .ok (.return_, 1) := by decide +kernel
theorem pn_3 : plainName "com/example/stackweave/stackweave/classfile/VerificationType" = true := by first | (simp [plainName, overriddenIn]; done) | decide +kernel
theorem efinit7 (m : MethodId) (o0_ : Addr) (x0_ : Int32) (o1_ : Addr) (x1_ : Int32) : entryFrame m #[(.ref o0_), (.int x0_), (.ref o1_), (.int x1_)] 4 = mkF m 0 #[.val (.ref o0_), .val (.int x0_), .val (.ref o1_), .val (.int x1_)] [] := by first | (simp [entryFrame, mkF, argsToLocals, Value.category]; done) | rfl
def Qinit7 (Z : State) (o0_ : Addr) (x0_ : Int32) (o1_ : Addr) (x1_ : Int32) (o2_ : Addr) (ko2_ : ClassId) (x2_ : Int32) (h0 : Heap) (n0 : Nat) (v : Option Value) (h : Heap) (L : List Loc) : Prop := v = none ∧ Fr n0 L ∧ Keep h0 h [o0_] ∧ Exa Z h o0_ "com/example/stackweave/stackweave/classfile/VerificationType" ∧ Fld Z h o0_ "com/example/stackweave/stackweave/classfile/VerificationType" "tag" "I" (.int x0_) ∧ Fld Z h o0_ "com/example/stackweave/stackweave/classfile/VerificationType" "className" "Ljava/lang/String;" (.ref o1_) ∧ Fld Z h o0_ "com/example/stackweave/stackweave/classfile/VerificationType" "newOffset" "I" (.int x1_)
set_option maxRecDepth 65536 in
set_option maxHeartbeats 40000000 in
theorem rminit7 (l : Launch) (Z : State) (a0 : Array Value) (hw : ∀ d ∈ tables_1, d.before a0 Z = true) (ws : List Jvm.Cond) (o0_ : Addr) (x0_ : Int32) (o1_ : Addr) (x1_ : Int32) (o2_ : Addr) (ko2_ : ClassId) (x2_ : Int32) (h0 : Heap) (n0 : Nat) (O0 : Old Z n0 h0) (P0 : Exa Z h0 o0_ "com/example/stackweave/stackweave/classfile/VerificationType") (P1 : Fld Z h0 o0_ "com/example/stackweave/stackweave/classfile/VerificationType" "tag" "I" (.int (0 : Int32))) (P2 : Fld Z h0 o0_ "com/example/stackweave/stackweave/classfile/VerificationType" "className" "Ljava/lang/String;" .null) (P3 : Fld Z h0 o0_ "com/example/stackweave/stackweave/classfile/VerificationType" "newOffset" "I" (.int (0 : Int32))) (P4 : Exa Z h0 o1_ "java/lang/String") (P5 : Fld Z h0 o1_ "java/lang/String" "coder" "B" (.int (0 : Int32))) (P6 : Fld Z h0 o1_ "java/lang/String" "value" "[B" (.ref o2_)) (P7 : Arv Z h0 o2_ ko2_ .byte (1 : Int32) [(.int x2_)] (.int (0 : Int32))) (P8 : Exa Z h0 o2_ "[B") (P9 : n0 ≤ o0_) :
    MetFree l (⟨"com/example/stackweave/stackweave/classfile/VerificationType", "<init>", "(ILjava/lang/String;I)V"⟩ : MethodName) (head1 (Jvm.Cond.code (⟨"com/example/stackweave/stackweave/classfile/VerificationType", "<init>", "(ILjava/lang/String;I)V"⟩ : MethodName) prog_38_method_1_code 4 none :: ws) ({ frames := 2, cells := 0, slots := 0, locals := 24 } : Room)) (fun a U => a = #[(.ref o0_), (.int x0_), (.ref o1_), (.int x1_)] ∧ Z.Warmed39 U.vm ∧ U.heap = h0) (fun _ _ _ _ _ => True) (fun _ U o U' => ∃ v L, o = .returned v ∧ Qinit7 Z o0_ x0_ o1_ x1_ o2_ ko2_ x2_ h0 n0 v U'.heap L ∧ FrameEnd U o U' L ({ frames := 2, cells := 0, slots := 0, locals := 24 } : Room).cells ({ frames := 2, cells := 0, slots := 0, locals := 24 } : Room).slots) := by
  refine MetFree.of_bodySF (plainFor_of_name pn_3) hisR ?_
  intro p e s m args below meth c s₁ Bd hml0 hP hK
  obtain ⟨rfl, hZ, hh⟩ := hP
  have hx := Bd.exec
  have hby := Bd.bytes
  have hml : c.maxLocals = 4 := hml0
  have hown : s.vm.findClass "com/example/stackweave/stackweave/classfile/VerificationType" = some m.cls := findClass_of_methodNamed Bd.named
  have hnm := (name_of_methodNamed Bd.named Bd.method).1
  have X0 : Stand p l e ({ frames := 2, cells := 0, slots := 0, locals := 24 } : Room) s m #[(.ref o0_), (.int x0_), (.ref o1_), (.int x1_)] below meth c s₁ [] 0 0 := Stand.of_body Bd
  have e0 : s₁.heap = h0 := by rw [← hh, Bd.state]; rfl
  have N0 := Fr.nil n0
  have pre0 : ∀ t, Steps p.tables e below (s₁.setTop (mkF m 0 #[.val (.ref o0_), .val (.int x0_), .val (.ref o1_), .val (.int x1_)] [])) t → Steps p.tables e below (s₁.setTop (entryFrame m #[(.ref o0_), (.int x0_), (.ref o1_), (.int x1_)] 4)) t := fun t k => castTop (efinit7 m o0_ x0_ o1_ x1_) k
  have K0 : Keep h0 h0 [o0_] := Keep.refl _ _
  obtain ⟨_, _, ⟨T1, L1, k1, n1⟩, -, X1, ⟨Lc1, hQ1, l1, y1, z1⟩, st1⟩ := X0.specialBack hx (y := (⟨"java/lang/Record", "<init>", "()V"⟩ : MethodName)) rfl hown (mvT hZ (hw _ (List.mem_of_getElem? (i := 37) rfl))) (mvT hZ (hw _ (List.mem_of_getElem? (i := 38) rfl))) (mvT hZ (hw _ (List.mem_of_getElem? (i := 41) rfl))) (by decide) (backOf (W := 0) (rminit8 l Z a0 hw [] o0_ h0 n0 O0 P0 P1 P2 P3) hZ (hw _ (List.mem_of_getElem? (i := 41) rfl)) (hw _ (List.mem_of_getElem? (i := 40) rfl)) (by decide) (by decide)) (g := (mkF m 1 #[.val (.ref o0_), .val (.int x0_), .val (.ref o1_), .val (.int x1_)] [(.ref o0_)])) rfl (by rw [hml]; rfl) (Steps.refl _) (a := o0_) (argsL := []) (rest := []) (lenOf pd_5 rfl) rfl (by show 2 * 0 + _ ≤ _; exact Nat.le_of_eq rfl) (hb hby d6_1) (fun _ _ => ⟨rfl, e0, (by decide : 0 + 0 ≤ _), (by decide : 0 + 0 ≤ _)⟩)
  dsimp only [Pt.U, Pt.locs, Pt.cells, Pt.slots] at X1 l1 y1 z1 st1 hQ1
  subst l1 y1 z1
  obtain ⟨h1, e1⟩ : ∃ z, T1.heap = z := ⟨_, rfl⟩
  rw [e1] at hQ1
  obtain ⟨rfl, N1q, hh1⟩ := hQ1
  have N2 := Fr.app N0 N1q
  have e1' : T1.heap = h0 := e1.trans hh1
  obtain ⟨T3, h3, X3, e3, W3, st3⟩ := putF X1 hx hZ hown (host := "") (Or.inl (hw _ (List.mem_of_getElem? (i := 43) rfl))) Via.refl e1' P1 P0 (Or.inr ⟨(hw _ (List.mem_of_getElem? (i := 44) rfl)), rfl, hnm⟩) (hw _ (List.mem_of_getElem? (i := 32) rfl)) (ty := .int) (by decide) rfl rfl (g := (mkF m 6 #[.val (.ref o0_), .val (.int x0_), .val (.ref o1_), .val (.int x1_)] [(.int x0_), (.ref o0_)])) rfl rfl (hb hby d6_6)
  have N4 := Fr.snoc X3 N2 P9
  have f5 : Fld Z h3 o0_ "com/example/stackweave/stackweave/classfile/VerificationType" "tag" "I" (.int x0_) := P1.same W3
  have f6 : Fld Z h3 o0_ "com/example/stackweave/stackweave/classfile/VerificationType" "className" "Ljava/lang/String;" .null := P2.other W3 (Or.inr (slot_ne (Or.inr (hw _ (List.mem_of_getElem? (i := 46) rfl))) (Or.inr (hw _ (List.mem_of_getElem? (i := 44) rfl))) (by decide) (t := (.object "java/lang/String")) (t' := .int) (by decide) (by decide)))
  have f7 : Exa Z h3 o0_ "com/example/stackweave/stackweave/classfile/VerificationType" := P0.wr W3
  obtain ⟨T8, h8, X8, e8, W8, st8⟩ := putF X3 hx hZ hown (host := "") (Or.inl (hw _ (List.mem_of_getElem? (i := 45) rfl))) Via.refl e3 f6 f7 (Or.inr ⟨(hw _ (List.mem_of_getElem? (i := 46) rfl)), rfl, hnm⟩) (hw _ (List.mem_of_getElem? (i := 32) rfl)) (ty := (.object "java/lang/String")) (by decide) rfl rfl (g := (mkF m 11 #[.val (.ref o0_), .val (.int x0_), .val (.ref o1_), .val (.int x1_)] [(.ref o1_), (.ref o0_)])) rfl rfl (hb hby d6_11)
  have N9 := Fr.snoc X8 N4 P9
  have f10 : Fld Z h8 o0_ "com/example/stackweave/stackweave/classfile/VerificationType" "className" "Ljava/lang/String;" (.ref o1_) := f6.same W8
  have f11 : Fld Z h3 o0_ "com/example/stackweave/stackweave/classfile/VerificationType" "newOffset" "I" (.int (0 : Int32)) := P3.other W3 (Or.inr (slot_ne (Or.inr (hw _ (List.mem_of_getElem? (i := 48) rfl))) (Or.inr (hw _ (List.mem_of_getElem? (i := 44) rfl))) (by decide) (t := .int) (t' := .int) (by decide) (by decide)))
  have f12 : Fld Z h8 o0_ "com/example/stackweave/stackweave/classfile/VerificationType" "newOffset" "I" (.int (0 : Int32)) := f11.other W8 (Or.inr (slot_ne (Or.inr (hw _ (List.mem_of_getElem? (i := 48) rfl))) (Or.inr (hw _ (List.mem_of_getElem? (i := 46) rfl))) (by decide) (t := .int) (t' := (.object "java/lang/String")) (by decide) (by decide)))
  have f13 : Exa Z h8 o0_ "com/example/stackweave/stackweave/classfile/VerificationType" := f7.wr W8
  obtain ⟨T14, h14, X14, e14, W14, st14⟩ := putF X8 hx hZ hown (host := "") (Or.inl (hw _ (List.mem_of_getElem? (i := 47) rfl))) Via.refl e8 f12 f13 (Or.inr ⟨(hw _ (List.mem_of_getElem? (i := 48) rfl)), rfl, hnm⟩) (hw _ (List.mem_of_getElem? (i := 32) rfl)) (ty := .int) (by decide) rfl rfl (g := (mkF m 16 #[.val (.ref o0_), .val (.int x0_), .val (.ref o1_), .val (.int x1_)] [(.int x1_), (.ref o0_)])) rfl rfl (hb hby d6_16)
  have N15 := Fr.snoc X14 N9 P9
  have f16 : Fld Z h14 o0_ "com/example/stackweave/stackweave/classfile/VerificationType" "newOffset" "I" (.int x1_) := f12.same W14
  have pre17 : ∀ t, Steps p.tables e below (T14.setTop (mkF m 19 #[.val (.ref o0_), .val (.int x0_), .val (.ref o1_), .val (.int x1_)] [])) t → Steps p.tables e below (s₁.setTop (entryFrame m #[(.ref o0_), (.int x0_), (.ref o1_), (.int x1_)] 4)) t := by
    intro t kt
    refine pre0 t ?_
    show Steps p.tables e below (s₁.setTop (mkF m 0 #[.val (.ref o0_), .val (.int x0_), .val (.ref o1_), .val (.int x1_)] [])) _
    refine XS.aloadN X0.here hx rfl (hb hby d6_0) rfl rfl ?_
    show Steps p.tables e below (s₁.setTop (mkF m 1 #[.val (.ref o0_), .val (.int x0_), .val (.ref o1_), .val (.int x1_)] [(.ref o0_)])) _
    refine st1.trans ?_
    show Steps p.tables e below (T1.setTop (mkF m 4 #[.val (.ref o0_), .val (.int x0_), .val (.ref o1_), .val (.int x1_)] [])) _
    refine XS.aloadN X1.here hx rfl (hb hby d6_4) rfl rfl ?_
    show Steps p.tables e below (T1.setTop (mkF m 5 #[.val (.ref o0_), .val (.int x0_), .val (.ref o1_), .val (.int x1_)] [(.ref o0_)])) _
    refine XS.iloadN X1.here hx rfl (hb hby d6_5) rfl ?_
    show Steps p.tables e below (T1.setTop (mkF m 6 #[.val (.ref o0_), .val (.int x0_), .val (.ref o1_), .val (.int x1_)] [(.int x0_), (.ref o0_)])) _
    refine st3 _ ?_
    show Steps p.tables e below (T3.setTop (mkF m 9 #[.val (.ref o0_), .val (.int x0_), .val (.ref o1_), .val (.int x1_)] [])) _
    refine XS.aloadN X3.here hx rfl (hb hby d6_9) rfl rfl ?_
    show Steps p.tables e below (T3.setTop (mkF m 10 #[.val (.ref o0_), .val (.int x0_), .val (.ref o1_), .val (.int x1_)] [(.ref o0_)])) _
    refine XS.aloadN X3.here hx rfl (hb hby d6_10) rfl rfl ?_
    show Steps p.tables e below (T3.setTop (mkF m 11 #[.val (.ref o0_), .val (.int x0_), .val (.ref o1_), .val (.int x1_)] [(.ref o1_), (.ref o0_)])) _
    refine st8 _ ?_
    show Steps p.tables e below (T8.setTop (mkF m 14 #[.val (.ref o0_), .val (.int x0_), .val (.ref o1_), .val (.int x1_)] [])) _
    refine XS.aloadN X8.here hx rfl (hb hby d6_14) rfl rfl ?_
    show Steps p.tables e below (T8.setTop (mkF m 15 #[.val (.ref o0_), .val (.int x0_), .val (.ref o1_), .val (.int x1_)] [(.ref o0_)])) _
    refine XS.iloadN X8.here hx rfl (hb hby d6_15) rfl ?_
    show Steps p.tables e below (T8.setTop (mkF m 16 #[.val (.ref o0_), .val (.int x0_), .val (.ref o1_), .val (.int x1_)] [(.int x1_), (.ref o0_)])) _
    refine st14 _ ?_
    exact kt
  have f19 : Keep h0 h3 [o0_] := K0.wr W3 (Or.inl (List.mem_of_getElem? (i := 0) rfl))
  have f20 : Keep h0 h8 [o0_] := f19.wr W8 (Or.inl (List.mem_of_getElem? (i := 0) rfl))
  have f21 : Keep h0 h14 [o0_] := f20.wr W14 (Or.inl (List.mem_of_getElem? (i := 0) rfl))
  have f22 : Exa Z h14 o0_ "com/example/stackweave/stackweave/classfile/VerificationType" := f13.wr W14
  have f23 : Fld Z h8 o0_ "com/example/stackweave/stackweave/classfile/VerificationType" "tag" "I" (.int x0_) := f5.other W8 (Or.inr (slot_ne (Or.inr (hw _ (List.mem_of_getElem? (i := 44) rfl))) (Or.inr (hw _ (List.mem_of_getElem? (i := 46) rfl))) (by decide) (t := .int) (t' := (.object "java/lang/String")) (by decide) (by decide)))
  have f24 : Fld Z h14 o0_ "com/example/stackweave/stackweave/classfile/VerificationType" "tag" "I" (.int x0_) := f23.other W14 (Or.inr (slot_ne (Or.inr (hw _ (List.mem_of_getElem? (i := 44) rfl))) (Or.inr (hw _ (List.mem_of_getElem? (i := 48) rfl))) (by decide) (t := .int) (t' := .int) (by decide) (by decide)))
  have f25 : Fld Z h14 o0_ "com/example/stackweave/stackweave/classfile/VerificationType" "className" "Ljava/lang/String;" (.ref o1_) := f10.other W14 (Or.inr (slot_ne (Or.inr (hw _ (List.mem_of_getElem? (i := 46) rfl))) (Or.inr (hw _ (List.mem_of_getElem? (i := 48) rfl))) (by decide) (t := (.object "java/lang/String")) (t' := .int) (by decide) (by decide)))
  obtain ⟨fs, hr, hrun, hended, hW, hsame⟩ := X14.leave (v := none) (fun _ => rfl)
  refine ⟨_, _, pre17 _ (X14.returnOut hx Bd.returns (hb hby d6_19) hr), hrun, hended, _, _, rfl, ?_, ⟨_, rfl⟩, hW, hsame.mono (by decide) (by decide)⟩
  show Qinit7 Z o0_ x0_ o1_ x1_ o2_ ko2_ x2_ h0 n0 _ T14.heap _
  rw [e14]
  exact ⟨rfl, N15, f21, f22, f24, f25, f16⟩
theorem pd_6 : parseMethodDescriptor "(ILjava/lang/String;I)V" = some ⟨[.int, (.object "java/lang/String"), .int], none⟩ := by decide +kernel
theorem d8_0 : decode prog_38_method_11_code 0 = .ok (.aload_n 0, 1) := by decide +kernel
theorem d8_1 : decode prog_38_method_11_code 1 = .ok (.getfield 7, 3) := by decide +kernel
theorem d8_4 : decode prog_38_method_11_code 4 = .ok (.bipush 6, 2) := by decide +kernel
theorem d8_6 : decode prog_38_method_11_code 6 = .ok (.if_icmp .eq 12, 3) := by decide +kernel
theorem d8_18 : decode prog_38_method_11_code 18 = .ok (.iconst 1, 1) := by decide +kernel
theorem d8_19 : decode prog_38_method_11_code 19 = .ok (.goto 4, 3) := by decide +kernel
theorem d8_23 : decode prog_38_method_11_code 23 = .ok (.ireturn, 1) := by decide +kernel
theorem d8_9 : decode prog_38_method_11_code 9 = .ok (.aload_n 0, 1) := by decide +kernel
theorem d8_10 : decode prog_38_method_11_code 10 = .ok (.getfield 7, 3) := by decide +kernel
theorem d8_13 : decode prog_38_method_11_code 13 = .ok (.bipush 8, 2) := by decide +kernel
theorem d8_15 : decode prog_38_method_11_code 15 = .ok (.if_icmp .ne 7, 3) := by decide +kernel
theorem d8_22 : decode prog_38_method_11_code 22 = .ok (.iconst 0, 1) := by decide +kernel
theorem efisUninitialized9 (m : MethodId) (o0_ : Addr) : entryFrame m #[(.ref o0_)] 1 = mkF m 0 #[.val (.ref o0_)] [] := by first | (simp [entryFrame, mkF, argsToLocals, Value.category]; done) | rfl
def QisUninitialized9 (Z : State) (o0_ : Addr) (x0_ : Int32) (o1_ : Addr) (x1_ : Int32) (o2_ : Addr) (ko2_ : ClassId) (x2_ : Int32) (h0 : Heap) (n0 : Nat) (v : Option Value) (h : Heap) (L : List Loc) : Prop := ∃ r_ : Int32, v = some (.int r_) ∧ (((1 : Int32) = r_ ∧ (x0_ = (6 : Int32))) ∨ ((1 : Int32) = r_ ∧ (¬ (x0_ = (6 : Int32))) ∧ (x0_ = (8 : Int32))) ∨ ((0 : Int32) = r_ ∧ (¬ (x0_ = (6 : Int32))) ∧ (¬ (x0_ = (8 : Int32))))) ∧ Fr n0 L ∧ h = h0
set_option maxRecDepth 65536 in
set_option maxHeartbeats 40000000 in
theorem rmisUninitialized9 (l : Launch) (Z : State) (a0 : Array Value) (hw : ∀ d ∈ tables_1, d.before a0 Z = true) (ws : List Jvm.Cond) (o0_ : Addr) (x0_ : Int32) (o1_ : Addr) (x1_ : Int32) (o2_ : Addr) (ko2_ : ClassId) (x2_ : Int32) (h0 : Heap) (n0 : Nat) (O0 : Old Z n0 h0) (P0 : Exa Z h0 o0_ "com/example/stackweave/stackweave/classfile/VerificationType") (P1 : Fld Z h0 o0_ "com/example/stackweave/stackweave/classfile/VerificationType" "tag" "I" (.int x0_)) (P2 : Fld Z h0 o0_ "com/example/stackweave/stackweave/classfile/VerificationType" "className" "Ljava/lang/String;" (.ref o1_)) (P3 : Fld Z h0 o0_ "com/example/stackweave/stackweave/classfile/VerificationType" "newOffset" "I" (.int x1_)) (P4 : Exa Z h0 o1_ "java/lang/String") (P5 : Fld Z h0 o1_ "java/lang/String" "coder" "B" (.int (0 : Int32))) (P6 : Fld Z h0 o1_ "java/lang/String" "value" "[B" (.ref o2_)) (P7 : Arv Z h0 o2_ ko2_ .byte (1 : Int32) [(.int x2_)] (.int (0 : Int32))) (P8 : Exa Z h0 o2_ "[B") :
    MetFree l (⟨"com/example/stackweave/stackweave/classfile/VerificationType", "isUninitialized", "()Z"⟩ : MethodName) (head1 (Jvm.Cond.code (⟨"com/example/stackweave/stackweave/classfile/VerificationType", "isUninitialized", "()Z"⟩ : MethodName) prog_38_method_11_code 1 (some .boolean) :: ws) ({ frames := 0, cells := 0, slots := 0, locals := 0 } : Room)) (fun a U => a = #[(.ref o0_)] ∧ Z.Warmed39 U.vm ∧ U.heap = h0) (fun _ _ _ _ _ => True) (fun _ U o U' => ∃ v L, o = .returned v ∧ QisUninitialized9 Z o0_ x0_ o1_ x1_ o2_ ko2_ x2_ h0 n0 v U'.heap L ∧ FrameEnd U o U' L ({ frames := 0, cells := 0, slots := 0, locals := 0 } : Room).cells ({ frames := 0, cells := 0, slots := 0, locals := 0 } : Room).slots) := by
  refine MetFree.of_bodySF (plainFor_of_name pn_3) hisR ?_
  intro p e s m args below meth c s₁ Bd hml0 hP hK
  obtain ⟨rfl, hZ, hh⟩ := hP
  have hx := Bd.exec
  have hby := Bd.bytes
  have hml : c.maxLocals = 1 := hml0
  have hown : s.vm.findClass "com/example/stackweave/stackweave/classfile/VerificationType" = some m.cls := findClass_of_methodNamed Bd.named
  have hnm := (name_of_methodNamed Bd.named Bd.method).1
  have X0 : Stand p l e ({ frames := 0, cells := 0, slots := 0, locals := 0 } : Room) s m #[(.ref o0_)] below meth c s₁ [] 0 0 := Stand.of_body Bd
  have e0 : s₁.heap = h0 := by rw [← hh, Bd.state]; rfl
  have N0 := Fr.nil n0
  have pre0 : ∀ t, Steps p.tables e below (s₁.setTop (mkF m 0 #[.val (.ref o0_)] [])) t → Steps p.tables e below (s₁.setTop (entryFrame m #[(.ref o0_)] 1)) t := fun t k => castTop (efisUninitialized9 m o0_) k
  have K0 : Keep h0 h0 [] := Keep.refl _ _
  obtain ⟨T1, X1, e1, st1⟩ := getF X0 hx hZ hown (host := "") (Or.inl (hw _ (List.mem_of_getElem? (i := 43) rfl))) Via.refl e0 P1 (g := (mkF m 1 #[.val (.ref o0_)] [(.ref o0_)])) rfl rfl (hb hby d8_1)
  have pre2 : ∀ t, Steps p.tables e below (T1.setTop (mkF m 6 #[.val (.ref o0_)] [(.int (6 : Int32)), (.int x0_)])) t → Steps p.tables e below (s₁.setTop (entryFrame m #[(.ref o0_)] 1)) t := by
    intro t kt
    refine pre0 t ?_
    show Steps p.tables e below (s₁.setTop (mkF m 0 #[.val (.ref o0_)] [])) _
    refine XS.aloadN X0.here hx rfl (hb hby d8_0) rfl rfl ?_
    show Steps p.tables e below (s₁.setTop (mkF m 1 #[.val (.ref o0_)] [(.ref o0_)])) _
    refine st1 _ ?_
    show Steps p.tables e below (T1.setTop (mkF m 4 #[.val (.ref o0_)] [(.int x0_)])) _
    refine XS.bipush X1.here hx rfl (hb hby d8_4) ?_
    exact kt
  by_cases hc3 : x0_ = (6 : Int32)
  · have pre4 : ∀ t, Steps p.tables e below (T1.setTop (mkF m 23 #[.val (.ref o0_)] [(.int (1 : Int32))])) t → Steps p.tables e below (s₁.setTop (entryFrame m #[(.ref o0_)] 1)) t := by
      intro t kt
      refine pre2 t ?_
      show Steps p.tables e below (T1.setTop (mkF m 6 #[.val (.ref o0_)] [(.int (6 : Int32)), (.int x0_)])) _
      refine XS.icmpYes X1.here hx rfl (pc0 := 6) (pc' := 18) rfl (hb hby d8_6) rfl (teq hc3).1 (by decide) (by decide) ?_
      show Steps p.tables e below (T1.setTop (mkF m 18 #[.val (.ref o0_)] [])) _
      refine XS.iconst X1.here hx rfl (hb hby d8_18) ?_
      show Steps p.tables e below (T1.setTop (mkF m 19 #[.val (.ref o0_)] [(.int (1 : Int32))])) _
      refine XS.goto X1.here hx rfl (pc0 := 19) (pc' := 23) rfl (hb hby d8_19) (by decide) (by decide) ?_
      exact kt
    obtain ⟨fs, hr, hrun, hended, hW, hsame⟩ := X1.leave (v := some (.int (1 : Int32))) (fun h => by rw [Bd.returns] at h; cases h)
    refine ⟨_, _, pre4 _ (retN X1 hx (t := .boolean) Bd.returns (by simp) (hb hby d8_23) hr), hrun, hended, _, _, rfl, ?_, ⟨_, rfl⟩, hW, hsame.mono (by decide) (by decide)⟩
    show QisUninitialized9 Z o0_ x0_ o1_ x1_ o2_ ko2_ x2_ h0 n0 _ T1.heap _
    rw [e1]
    exact ⟨(1 : Int32), rfl, (Or.inl ⟨rfl, hc3⟩), N0, rfl⟩
  · obtain ⟨T6, X6, e6, st6⟩ := getF X1 hx hZ hown (host := "") (Or.inl (hw _ (List.mem_of_getElem? (i := 43) rfl))) Via.refl e1 P1 (g := (mkF m 10 #[.val (.ref o0_)] [(.ref o0_)])) rfl rfl (hb hby d8_10)
    have pre7 : ∀ t, Steps p.tables e below (T6.setTop (mkF m 15 #[.val (.ref o0_)] [(.int (8 : Int32)), (.int x0_)])) t → Steps p.tables e below (s₁.setTop (entryFrame m #[(.ref o0_)] 1)) t := by
      intro t kt
      refine pre2 t ?_
      show Steps p.tables e below (T1.setTop (mkF m 6 #[.val (.ref o0_)] [(.int (6 : Int32)), (.int x0_)])) _
      refine XS.icmpNo X1.here hx rfl (hb hby d8_6) rfl (feq hc3).1 ?_
      show Steps p.tables e below (T1.setTop (mkF m 9 #[.val (.ref o0_)] [])) _
      refine XS.aloadN X1.here hx rfl (hb hby d8_9) rfl rfl ?_
      show Steps p.tables e below (T1.setTop (mkF m 10 #[.val (.ref o0_)] [(.ref o0_)])) _
      refine st6 _ ?_
      show Steps p.tables e below (T6.setTop (mkF m 13 #[.val (.ref o0_)] [(.int x0_)])) _
      refine XS.bipush X6.here hx rfl (hb hby d8_13) ?_
      exact kt
    by_cases hc8 : x0_ = (8 : Int32)
    · have pre9 : ∀ t, Steps p.tables e below (T6.setTop (mkF m 23 #[.val (.ref o0_)] [(.int (1 : Int32))])) t → Steps p.tables e below (s₁.setTop (entryFrame m #[(.ref o0_)] 1)) t := by
        intro t kt
        refine pre7 t ?_
        show Steps p.tables e below (T6.setTop (mkF m 15 #[.val (.ref o0_)] [(.int (8 : Int32)), (.int x0_)])) _
        refine XS.icmpNo X6.here hx rfl (hb hby d8_15) rfl (teq hc8).2 ?_
        show Steps p.tables e below (T6.setTop (mkF m 18 #[.val (.ref o0_)] [])) _
        refine XS.iconst X6.here hx rfl (hb hby d8_18) ?_
        show Steps p.tables e below (T6.setTop (mkF m 19 #[.val (.ref o0_)] [(.int (1 : Int32))])) _
        refine XS.goto X6.here hx rfl (pc0 := 19) (pc' := 23) rfl (hb hby d8_19) (by decide) (by decide) ?_
        exact kt
      obtain ⟨fs, hr, hrun, hended, hW, hsame⟩ := X6.leave (v := some (.int (1 : Int32))) (fun h => by rw [Bd.returns] at h; cases h)
      refine ⟨_, _, pre9 _ (retN X6 hx (t := .boolean) Bd.returns (by simp) (hb hby d8_23) hr), hrun, hended, _, _, rfl, ?_, ⟨_, rfl⟩, hW, hsame.mono (by decide) (by decide)⟩
      show QisUninitialized9 Z o0_ x0_ o1_ x1_ o2_ ko2_ x2_ h0 n0 _ T6.heap _
      rw [e6]
      exact ⟨(1 : Int32), rfl, (Or.inr (Or.inl ⟨rfl, hc3, hc8⟩)), N0, rfl⟩
    · have pre11 : ∀ t, Steps p.tables e below (T6.setTop (mkF m 23 #[.val (.ref o0_)] [(.int (0 : Int32))])) t → Steps p.tables e below (s₁.setTop (entryFrame m #[(.ref o0_)] 1)) t := by
        intro t kt
        refine pre7 t ?_
        show Steps p.tables e below (T6.setTop (mkF m 15 #[.val (.ref o0_)] [(.int (8 : Int32)), (.int x0_)])) _
        refine XS.icmpYes X6.here hx rfl (pc0 := 15) (pc' := 22) rfl (hb hby d8_15) rfl (feq hc8).2 (by decide) (by decide) ?_
        show Steps p.tables e below (T6.setTop (mkF m 22 #[.val (.ref o0_)] [])) _
        refine XS.iconst X6.here hx rfl (hb hby d8_22) ?_
        exact kt
      obtain ⟨fs, hr, hrun, hended, hW, hsame⟩ := X6.leave (v := some (.int (0 : Int32))) (fun h => by rw [Bd.returns] at h; cases h)
      refine ⟨_, _, pre11 _ (retN X6 hx (t := .boolean) Bd.returns (by simp) (hb hby d8_23) hr), hrun, hended, _, _, rfl, ?_, ⟨_, rfl⟩, hW, hsame.mono (by decide) (by decide)⟩
      show QisUninitialized9 Z o0_ x0_ o1_ x1_ o2_ ko2_ x2_ h0 n0 _ T6.heap _
      rw [e6]
      exact ⟨(0 : Int32), rfl, (Or.inr (Or.inr ⟨rfl, hc3, hc8⟩)), N0, rfl⟩
theorem pd_7 : parseMethodDescriptor "()Z" = some ⟨[], some .boolean⟩ := by decide +kernel
theorem d9_0 : decode prog_38_method_13_code 0 = .ok (.aload_n 0, 1) := by decide +kernel
theorem d9_1 : decode prog_38_method_13_code 1 = .ok (.getfield 7, 3) := by decide +kernel
theorem d9_4 : decode prog_38_method_13_code 4 = .ok (.tableswitch 83 1 8 #[48, 55, 62, 69, 76, 76, 76, 76], 48) := by decide +kernel
theorem d9_80 : decode prog_38_method_13_code 80 = .ok (.getstatic 119, 3) := by decide +kernel
theorem d9_83 : decode prog_38_method_13_code 83 = .ok (.astore_n 1, 1) := by decide +kernel
theorem d9_84 : decode prog_38_method_13_code 84 = .ok (.goto 13, 3) := by decide +kernel
theorem d9_97 : decode prog_38_method_13_code 97 = .ok (.aload_n 1, 1) := by decide +kernel
theorem d9_98 : decode prog_38_method_13_code 98 = .ok (.areturn, 1) := by decide +kernel
theorem efkind10 (m : MethodId) (o0_ : Addr) : entryFrame m #[(.ref o0_)] 2 = mkF m 0 #[.val (.ref o0_), .unset] [] := by first | (simp [entryFrame, mkF, argsToLocals, Value.category]; done) | rfl
def Qkind10 (Z : State) (o0_ : Addr) (x0_ : Int32) (o1_ : Addr) (x1_ : Int32) (o2_ : Addr) (ko2_ : ClassId) (x2_ : Int32) (o3_ : Addr) (h0 : Heap) (n0 : Nat) (v : Option Value) (h : Heap) (L : List Loc) : Prop := v = some (.ref o3_) ∧ Fr n0 L ∧ h = h0
set_option maxRecDepth 65536 in
set_option maxHeartbeats 40000000 in
theorem rmkind10 (l : Launch) (Z : State) (a0 : Array Value) (hw : ∀ d ∈ tables_1, d.before a0 Z = true) (ws : List Jvm.Cond) (o0_ : Addr) (x0_ : Int32) (o1_ : Addr) (x1_ : Int32) (o2_ : Addr) (ko2_ : ClassId) (x2_ : Int32) (o3_ : Addr) (h0 : Heap) (n0 : Nat) (O0 : Old Z n0 h0) (ha0 : x0_ = (6 : Int32)) (P1 : Exa Z h0 o0_ "com/example/stackweave/stackweave/classfile/VerificationType") (P2 : Fld Z h0 o0_ "com/example/stackweave/stackweave/classfile/VerificationType" "tag" "I" (.int x0_)) (P3 : Fld Z h0 o0_ "com/example/stackweave/stackweave/classfile/VerificationType" "className" "Ljava/lang/String;" (.ref o1_)) (P4 : Fld Z h0 o0_ "com/example/stackweave/stackweave/classfile/VerificationType" "newOffset" "I" (.int x1_)) (P5 : Exa Z h0 o1_ "java/lang/String") (P6 : Fld Z h0 o1_ "java/lang/String" "coder" "B" (.int (0 : Int32))) (P7 : Fld Z h0 o1_ "java/lang/String" "value" "[B" (.ref o2_)) (P8 : Arv Z h0 o2_ ko2_ .byte (1 : Int32) [(.int x2_)] (.int (0 : Int32))) (P9 : Exa Z h0 o2_ "[B") (P10 : Exa Z Z.heap o3_ "com/example/stackweave/stackweave/classfile/ValueKind") (P11 : Fld Z Z.heap o3_ "java/lang/Enum" "ordinal" "I" (.int (4 : Int32))) (P12 : Sta Z Z.heap "com/example/stackweave/stackweave/classfile/ValueKind" "REFERENCE" "Lcom/example/stackweave/stackweave/classfile/ValueKind;" (.ref o3_)) :
    MetFree l (⟨"com/example/stackweave/stackweave/classfile/VerificationType", "kind", "()Lcom/example/stackweave/stackweave/classfile/ValueKind;"⟩ : MethodName) (head1 (Jvm.Cond.code (⟨"com/example/stackweave/stackweave/classfile/VerificationType", "kind", "()Lcom/example/stackweave/stackweave/classfile/ValueKind;"⟩ : MethodName) prog_38_method_13_code 2 (some (.object "com/example/stackweave/stackweave/classfile/ValueKind")) :: ws) ({ frames := 0, cells := 0, slots := 0, locals := 0 } : Room)) (fun a U => a = #[(.ref o0_)] ∧ Z.Warmed39 U.vm ∧ U.heap = h0) (fun _ _ _ _ _ => True) (fun _ U o U' => ∃ v L, o = .returned v ∧ Qkind10 Z o0_ x0_ o1_ x1_ o2_ ko2_ x2_ o3_ h0 n0 v U'.heap L ∧ FrameEnd U o U' L ({ frames := 0, cells := 0, slots := 0, locals := 0 } : Room).cells ({ frames := 0, cells := 0, slots := 0, locals := 0 } : Room).slots) := by
  refine MetFree.of_bodySF (plainFor_of_name pn_3) hisR ?_
  intro p e s m args below meth c s₁ Bd hml0 hP hK
  obtain ⟨rfl, hZ, hh⟩ := hP
  have hx := Bd.exec
  have hby := Bd.bytes
  have hml : c.maxLocals = 2 := hml0
  have hown : s.vm.findClass "com/example/stackweave/stackweave/classfile/VerificationType" = some m.cls := findClass_of_methodNamed Bd.named
  have hnm := (name_of_methodNamed Bd.named Bd.method).1
  have X0 : Stand p l e ({ frames := 0, cells := 0, slots := 0, locals := 0 } : Room) s m #[(.ref o0_)] below meth c s₁ [] 0 0 := Stand.of_body Bd
  have e0 : s₁.heap = h0 := by rw [← hh, Bd.state]; rfl
  have N0 := Fr.nil n0
  have pre0 : ∀ t, Steps p.tables e below (s₁.setTop (mkF m 0 #[.val (.ref o0_), .unset] [])) t → Steps p.tables e below (s₁.setTop (entryFrame m #[(.ref o0_)] 2)) t := fun t k => castTop (efkind10 m o0_) k
  have K0 : Keep h0 h0 [] := Keep.refl _ _
  obtain ⟨T1, X1, e1, st1⟩ := getF X0 hx hZ hown (host := "") (Or.inl (hw _ (List.mem_of_getElem? (i := 43) rfl))) Via.refl e0 P2 (g := (mkF m 1 #[.val (.ref o0_), .unset] [(.ref o0_)])) rfl rfl (hb hby d9_1)
  have pre2 : ∀ t, Steps p.tables e below (T1.setTop (mkF m 4 #[.val (.ref o0_), .unset] [(.int x0_)])) t → Steps p.tables e below (s₁.setTop (entryFrame m #[(.ref o0_)] 2)) t := by
    intro t kt
    refine pre0 t ?_
    show Steps p.tables e below (s₁.setTop (mkF m 0 #[.val (.ref o0_), .unset] [])) _
    refine XS.aloadN X0.here hx rfl (hb hby d9_0) rfl rfl ?_
    show Steps p.tables e below (s₁.setTop (mkF m 1 #[.val (.ref o0_), .unset] [(.ref o0_)])) _
    refine st1 _ ?_
    exact kt
  by_cases hv3 : x0_ = (6 : Int32)
  · have pre4 : ∀ t, Steps p.tables e below (T1.setTop (mkF m 4 #[.val (.ref o0_), .unset] [(.int (6 : Int32))])) t → Steps p.tables e below (s₁.setTop (entryFrame m #[(.ref o0_)] 2)) t := fun t kt => pre2 t (by rw [hv3]; exact kt)
    obtain ⟨T5, X5, e5, st5⟩ := getS2 X1 hx hZ hown (host := "") (Or.inl (hw _ (List.mem_of_getElem? (i := 68) rfl))) Via.refl e1 (P12.ext O0.2) (g := (mkF m 80 #[.val (.ref o0_), .unset] [])) rfl (hb hby d9_80)
    have pre6 : ∀ t, Steps p.tables e below (T5.setTop (mkF m 98 #[.val (.ref o0_), .val (.ref o3_)] [(.ref o3_)])) t → Steps p.tables e below (s₁.setTop (entryFrame m #[(.ref o0_)] 2)) t := by
      intro t kt
      refine pre4 t ?_
      show Steps p.tables e below (T1.setTop (mkF m 4 #[.val (.ref o0_), .unset] [(.int (6 : Int32))])) _
      refine XS.tswIn X1.here hx rfl (pc0 := 4) (pc' := 80) (o := 76) rfl (hb hby d9_4) rfl (by decide) rfl (by decide) (by decide) ?_
      show Steps p.tables e below (T1.setTop (mkF m 80 #[.val (.ref o0_), .unset] [])) _
      refine st5 _ ?_
      show Steps p.tables e below (T5.setTop (mkF m 83 #[.val (.ref o0_), .unset] [(.ref o3_)])) _
      refine XS.astoreN X5.here hx rfl (hb hby d9_83) rfl rfl (l' := #[.val (.ref o0_), .val (.ref o3_)]) rfl ?_
      show Steps p.tables e below (T5.setTop (mkF m 84 #[.val (.ref o0_), .val (.ref o3_)] [])) _
      refine XS.goto X5.here hx rfl (pc0 := 84) (pc' := 97) rfl (hb hby d9_84) (by decide) (by decide) ?_
      show Steps p.tables e below (T5.setTop (mkF m 97 #[.val (.ref o0_), .val (.ref o3_)] [])) _
      refine XS.aloadN X5.here hx rfl (hb hby d9_97) rfl rfl ?_
      exact kt
    obtain ⟨fs, hr, hrun, hended, hW, hsame⟩ := X5.leave (v := some (.ref o3_)) (fun h => by rw [Bd.returns] at h; cases h)
    refine ⟨_, _, pre6 _ (retOut X5 hx Bd.returns rfl (Or.inr (Or.inr (Or.inr (Or.inr ⟨rfl, rfl, rfl⟩)))) (hb hby d9_98) hr), hrun, hended, _, _, rfl, ?_, ⟨_, rfl⟩, hW, hsame.mono (by decide) (by decide)⟩
    show Qkind10 Z o0_ x0_ o1_ x1_ o2_ ko2_ x2_ o3_ h0 n0 _ T5.heap _
    rw [e5]
    exact ⟨rfl, N0, rfl⟩
  · exfalso
    have lt_0 : ((6 : Int32)).toInt = 6 := rfl
    simp only [Int32.lt_iff_toInt_lt, Int64.lt_iff_toInt_lt, ← Int32.toInt_inj, ← Int64.toInt_inj] at ha0 hv3
    omega
theorem pd_8 : parseMethodDescriptor "()Lcom/example/stackweave/stackweave/classfile/ValueKind;" = some ⟨[], some (.object "com/example/stackweave/stackweave/classfile/ValueKind")⟩ := by decide +kernel
theorem d10_0 : decode prog_38_method_10_code 0 = .ok (.aload_n 0, 1) := by decide +kernel
theorem d10_1 : decode prog_38_method_10_code 1 = .ok (.getfield 7, 3) := by decide +kernel
theorem d10_4 : decode prog_38_method_10_code 4 = .ok (.bipush 7, 2) := by decide +kernel
theorem d10_6 : decode prog_38_method_10_code 6 = .ok (.if_icmp .eq 11, 3) := by decide +kernel
theorem d10_9 : decode prog_38_method_10_code 9 = .ok (.aload_n 0, 1) := by decide +kernel
theorem d10_10 : decode prog_38_method_10_code 10 = .ok (.getfield 7, 3) := by decide +kernel
theorem d10_13 : decode prog_38_method_10_code 13 = .ok (.iconst 5, 1) := by decide +kernel
theorem d10_14 : decode prog_38_method_10_code 14 = .ok (.if_icmp .ne 7, 3) := by decide +kernel
theorem d10_21 : decode prog_38_method_10_code 21 = .ok (.iconst 0, 1) := by decide +kernel
theorem d10_22 : decode prog_38_method_10_code 22 = .ok (.ireturn, 1) := by decide +kernel
theorem efisReference11 (m : MethodId) (o0_ : Addr) : entryFrame m #[(.ref o0_)] 1 = mkF m 0 #[.val (.ref o0_)] [] := by first | (simp [entryFrame, mkF, argsToLocals, Value.category]; done) | rfl
def QisReference11 (Z : State) (o0_ : Addr) (x0_ : Int32) (o1_ : Addr) (x1_ : Int32) (o2_ : Addr) (ko2_ : ClassId) (x2_ : Int32) (h0 : Heap) (n0 : Nat) (v : Option Value) (h : Heap) (L : List Loc) : Prop := v = some (.int (0 : Int32)) ∧ Fr n0 L ∧ h = h0
set_option maxRecDepth 65536 in
set_option maxHeartbeats 40000000 in
theorem rmisReference11 (l : Launch) (Z : State) (a0 : Array Value) (hw : ∀ d ∈ tables_1, d.before a0 Z = true) (ws : List Jvm.Cond) (o0_ : Addr) (x0_ : Int32) (o1_ : Addr) (x1_ : Int32) (o2_ : Addr) (ko2_ : ClassId) (x2_ : Int32) (h0 : Heap) (n0 : Nat) (O0 : Old Z n0 h0) (ha0 : x0_ = (6 : Int32)) (P1 : Exa Z h0 o0_ "com/example/stackweave/stackweave/classfile/VerificationType") (P2 : Fld Z h0 o0_ "com/example/stackweave/stackweave/classfile/VerificationType" "tag" "I" (.int x0_)) (P3 : Fld Z h0 o0_ "com/example/stackweave/stackweave/classfile/VerificationType" "className" "Ljava/lang/String;" (.ref o1_)) (P4 : Fld Z h0 o0_ "com/example/stackweave/stackweave/classfile/VerificationType" "newOffset" "I" (.int x1_)) (P5 : Exa Z h0 o1_ "java/lang/String") (P6 : Fld Z h0 o1_ "java/lang/String" "coder" "B" (.int (0 : Int32))) (P7 : Fld Z h0 o1_ "java/lang/String" "value" "[B" (.ref o2_)) (P8 : Arv Z h0 o2_ ko2_ .byte (1 : Int32) [(.int x2_)] (.int (0 : Int32))) (P9 : Exa Z h0 o2_ "[B") :
    MetFree l (⟨"com/example/stackweave/stackweave/classfile/VerificationType", "isReference", "()Z"⟩ : MethodName) (head1 (Jvm.Cond.code (⟨"com/example/stackweave/stackweave/classfile/VerificationType", "isReference", "()Z"⟩ : MethodName) prog_38_method_10_code 1 (some .boolean) :: ws) ({ frames := 0, cells := 0, slots := 0, locals := 0 } : Room)) (fun a U => a = #[(.ref o0_)] ∧ Z.Warmed39 U.vm ∧ U.heap = h0) (fun _ _ _ _ _ => True) (fun _ U o U' => ∃ v L, o = .returned v ∧ QisReference11 Z o0_ x0_ o1_ x1_ o2_ ko2_ x2_ h0 n0 v U'.heap L ∧ FrameEnd U o U' L ({ frames := 0, cells := 0, slots := 0, locals := 0 } : Room).cells ({ frames := 0, cells := 0, slots := 0, locals := 0 } : Room).slots) := by
  refine MetFree.of_bodySF (plainFor_of_name pn_3) hisR ?_
  intro p e s m args below meth c s₁ Bd hml0 hP hK
  obtain ⟨rfl, hZ, hh⟩ := hP
  have hx := Bd.exec
  have hby := Bd.bytes
  have hml : c.maxLocals = 1 := hml0
  have hown : s.vm.findClass "com/example/stackweave/stackweave/classfile/VerificationType" = some m.cls := findClass_of_methodNamed Bd.named
  have hnm := (name_of_methodNamed Bd.named Bd.method).1
  have X0 : Stand p l e ({ frames := 0, cells := 0, slots := 0, locals := 0 } : Room) s m #[(.ref o0_)] below meth c s₁ [] 0 0 := Stand.of_body Bd
  have e0 : s₁.heap = h0 := by rw [← hh, Bd.state]; rfl
  have N0 := Fr.nil n0
  have pre0 : ∀ t, Steps p.tables e below (s₁.setTop (mkF m 0 #[.val (.ref o0_)] [])) t → Steps p.tables e below (s₁.setTop (entryFrame m #[(.ref o0_)] 1)) t := fun t k => castTop (efisReference11 m o0_) k
  have K0 : Keep h0 h0 [] := Keep.refl _ _
  obtain ⟨T1, X1, e1, st1⟩ := getF X0 hx hZ hown (host := "") (Or.inl (hw _ (List.mem_of_getElem? (i := 43) rfl))) Via.refl e0 P2 (g := (mkF m 1 #[.val (.ref o0_)] [(.ref o0_)])) rfl rfl (hb hby d10_1)
  obtain ⟨T2, X2, e2, st2⟩ := getF X1 hx hZ hown (host := "") (Or.inl (hw _ (List.mem_of_getElem? (i := 43) rfl))) Via.refl e1 P2 (g := (mkF m 10 #[.val (.ref o0_)] [(.ref o0_)])) rfl rfl (hb hby d10_10)
  have pre3 : ∀ t, Steps p.tables e below (T2.setTop (mkF m 22 #[.val (.ref o0_)] [(.int (0 : Int32))])) t → Steps p.tables e below (s₁.setTop (entryFrame m #[(.ref o0_)] 1)) t := by
    intro t kt
    refine pre0 t ?_
    show Steps p.tables e below (s₁.setTop (mkF m 0 #[.val (.ref o0_)] [])) _
    refine XS.aloadN X0.here hx rfl (hb hby d10_0) rfl rfl ?_
    show Steps p.tables e below (s₁.setTop (mkF m 1 #[.val (.ref o0_)] [(.ref o0_)])) _
    refine st1 _ ?_
    show Steps p.tables e below (T1.setTop (mkF m 4 #[.val (.ref o0_)] [(.int x0_)])) _
    refine XS.bipush X1.here hx rfl (hb hby d10_4) ?_
    show Steps p.tables e below (T1.setTop (mkF m 6 #[.val (.ref o0_)] [(.int (7 : Int32)), (.int x0_)])) _
    refine XS.icmpNo X1.here hx rfl (hb hby d10_6) rfl (feq (by intro hz; have lt_0 : ((6 : Int32)).toInt = 6 := rfl; have lt_1 : ((7 : Int32)).toInt = 7 := rfl; simp only [Int32.lt_iff_toInt_lt, Int64.lt_iff_toInt_lt, ← Int32.toInt_inj, ← Int64.toInt_inj] at hz ha0; omega)).1 ?_
    show Steps p.tables e below (T1.setTop (mkF m 9 #[.val (.ref o0_)] [])) _
    refine XS.aloadN X1.here hx rfl (hb hby d10_9) rfl rfl ?_
    show Steps p.tables e below (T1.setTop (mkF m 10 #[.val (.ref o0_)] [(.ref o0_)])) _
    refine st2 _ ?_
    show Steps p.tables e below (T2.setTop (mkF m 13 #[.val (.ref o0_)] [(.int x0_)])) _
    refine XS.iconst X2.here hx rfl (hb hby d10_13) ?_
    show Steps p.tables e below (T2.setTop (mkF m 14 #[.val (.ref o0_)] [(.int (5 : Int32)), (.int x0_)])) _
    refine XS.icmpYes X2.here hx rfl (pc0 := 14) (pc' := 21) rfl (hb hby d10_14) rfl (feq (by intro hz; have lt_0 : ((5 : Int32)).toInt = 5 := rfl; have lt_1 : ((6 : Int32)).toInt = 6 := rfl; simp only [Int32.lt_iff_toInt_lt, Int64.lt_iff_toInt_lt, ← Int32.toInt_inj, ← Int64.toInt_inj] at hz ha0; omega)).2 (by decide) (by decide) ?_
    show Steps p.tables e below (T2.setTop (mkF m 21 #[.val (.ref o0_)] [])) _
    refine XS.iconst X2.here hx rfl (hb hby d10_21) ?_
    exact kt
  obtain ⟨fs, hr, hrun, hended, hW, hsame⟩ := X2.leave (v := some (.int (0 : Int32))) (fun h => by rw [Bd.returns] at h; cases h)
  refine ⟨_, _, pre3 _ (retN X2 hx (t := .boolean) Bd.returns (by simp) (hb hby d10_22) hr), hrun, hended, _, _, rfl, ?_, ⟨_, rfl⟩, hW, hsame.mono (by decide) (by decide)⟩
  show QisReference11 Z o0_ x0_ o1_ x1_ o2_ ko2_ x2_ h0 n0 _ T2.heap _
  rw [e2]
  exact ⟨rfl, N0, rfl⟩
theorem efkind12 (m : MethodId) (o0_ : Addr) : entryFrame m #[(.ref o0_)] 2 = mkF m 0 #[.val (.ref o0_), .unset] [] := by first | (simp [entryFrame, mkF, argsToLocals, Value.category]; done) | rfl
def Qkind12 (Z : State) (o0_ : Addr) (x0_ : Int32) (o1_ : Addr) (x1_ : Int32) (o2_ : Addr) (ko2_ : ClassId) (x2_ : Int32) (o3_ : Addr) (h0 : Heap) (n0 : Nat) (v : Option Value) (h : Heap) (L : List Loc) : Prop := v = some (.ref o3_) ∧ Fr n0 L ∧ h = h0
set_option maxRecDepth 65536 in
set_option maxHeartbeats 40000000 in
theorem rmkind12 (l : Launch) (Z : State) (a0 : Array Value) (hw : ∀ d ∈ tables_1, d.before a0 Z = true) (ws : List Jvm.Cond) (o0_ : Addr) (x0_ : Int32) (o1_ : Addr) (x1_ : Int32) (o2_ : Addr) (ko2_ : ClassId) (x2_ : Int32) (o3_ : Addr) (h0 : Heap) (n0 : Nat) (O0 : Old Z n0 h0) (ha0 : ¬ (x0_ = (6 : Int32))) (ha1 : x0_ = (8 : Int32)) (P2 : Exa Z h0 o0_ "com/example/stackweave/stackweave/classfile/VerificationType") (P3 : Fld Z h0 o0_ "com/example/stackweave/stackweave/classfile/VerificationType" "tag" "I" (.int x0_)) (P4 : Fld Z h0 o0_ "com/example/stackweave/stackweave/classfile/VerificationType" "className" "Ljava/lang/String;" (.ref o1_)) (P5 : Fld Z h0 o0_ "com/example/stackweave/stackweave/classfile/VerificationType" "newOffset" "I" (.int x1_)) (P6 : Exa Z h0 o1_ "java/lang/String") (P7 : Fld Z h0 o1_ "java/lang/String" "coder" "B" (.int (0 : Int32))) (P8 : Fld Z h0 o1_ "java/lang/String" "value" "[B" (.ref o2_)) (P9 : Arv Z h0 o2_ ko2_ .byte (1 : Int32) [(.int x2_)] (.int (0 : Int32))) (P10 : Exa Z h0 o2_ "[B") (P11 : Exa Z Z.heap o3_ "com/example/stackweave/stackweave/classfile/ValueKind") (P12 : Fld Z Z.heap o3_ "java/lang/Enum" "ordinal" "I" (.int (4 : Int32))) (P13 : Sta Z Z.heap "com/example/stackweave/stackweave/classfile/ValueKind" "REFERENCE" "Lcom/example/stackweave/stackweave/classfile/ValueKind;" (.ref o3_)) :
    MetFree l (⟨"com/example/stackweave/stackweave/classfile/VerificationType", "kind", "()Lcom/example/stackweave/stackweave/classfile/ValueKind;"⟩ : MethodName) (head1 (Jvm.Cond.code (⟨"com/example/stackweave/stackweave/classfile/VerificationType", "kind", "()Lcom/example/stackweave/stackweave/classfile/ValueKind;"⟩ : MethodName) prog_38_method_13_code 2 (some (.object "com/example/stackweave/stackweave/classfile/ValueKind")) :: ws) ({ frames := 0, cells := 0, slots := 0, locals := 0 } : Room)) (fun a U => a = #[(.ref o0_)] ∧ Z.Warmed39 U.vm ∧ U.heap = h0) (fun _ _ _ _ _ => True) (fun _ U o U' => ∃ v L, o = .returned v ∧ Qkind12 Z o0_ x0_ o1_ x1_ o2_ ko2_ x2_ o3_ h0 n0 v U'.heap L ∧ FrameEnd U o U' L ({ frames := 0, cells := 0, slots := 0, locals := 0 } : Room).cells ({ frames := 0, cells := 0, slots := 0, locals := 0 } : Room).slots) := by
  refine MetFree.of_bodySF (plainFor_of_name pn_3) hisR ?_
  intro p e s m args below meth c s₁ Bd hml0 hP hK
  obtain ⟨rfl, hZ, hh⟩ := hP
  have hx := Bd.exec
  have hby := Bd.bytes
  have hml : c.maxLocals = 2 := hml0
  have hown : s.vm.findClass "com/example/stackweave/stackweave/classfile/VerificationType" = some m.cls := findClass_of_methodNamed Bd.named
  have hnm := (name_of_methodNamed Bd.named Bd.method).1
  have X0 : Stand p l e ({ frames := 0, cells := 0, slots := 0, locals := 0 } : Room) s m #[(.ref o0_)] below meth c s₁ [] 0 0 := Stand.of_body Bd
  have e0 : s₁.heap = h0 := by rw [← hh, Bd.state]; rfl
  have N0 := Fr.nil n0
  have pre0 : ∀ t, Steps p.tables e below (s₁.setTop (mkF m 0 #[.val (.ref o0_), .unset] [])) t → Steps p.tables e below (s₁.setTop (entryFrame m #[(.ref o0_)] 2)) t := fun t k => castTop (efkind12 m o0_) k
  have K0 : Keep h0 h0 [] := Keep.refl _ _
  obtain ⟨T1, X1, e1, st1⟩ := getF X0 hx hZ hown (host := "") (Or.inl (hw _ (List.mem_of_getElem? (i := 43) rfl))) Via.refl e0 P3 (g := (mkF m 1 #[.val (.ref o0_), .unset] [(.ref o0_)])) rfl rfl (hb hby d9_1)
  have pre2 : ∀ t, Steps p.tables e below (T1.setTop (mkF m 4 #[.val (.ref o0_), .unset] [(.int x0_)])) t → Steps p.tables e below (s₁.setTop (entryFrame m #[(.ref o0_)] 2)) t := by
    intro t kt
    refine pre0 t ?_
    show Steps p.tables e below (s₁.setTop (mkF m 0 #[.val (.ref o0_), .unset] [])) _
    refine XS.aloadN X0.here hx rfl (hb hby d9_0) rfl rfl ?_
    show Steps p.tables e below (s₁.setTop (mkF m 1 #[.val (.ref o0_), .unset] [(.ref o0_)])) _
    refine st1 _ ?_
    exact kt
  by_cases hv3 : x0_ = (8 : Int32)
  · have pre4 : ∀ t, Steps p.tables e below (T1.setTop (mkF m 4 #[.val (.ref o0_), .unset] [(.int (8 : Int32))])) t → Steps p.tables e below (s₁.setTop (entryFrame m #[(.ref o0_)] 2)) t := fun t kt => pre2 t (by rw [hv3]; exact kt)
    obtain ⟨T5, X5, e5, st5⟩ := getS2 X1 hx hZ hown (host := "") (Or.inl (hw _ (List.mem_of_getElem? (i := 68) rfl))) Via.refl e1 (P13.ext O0.2) (g := (mkF m 80 #[.val (.ref o0_), .unset] [])) rfl (hb hby d9_80)
    have pre6 : ∀ t, Steps p.tables e below (T5.setTop (mkF m 98 #[.val (.ref o0_), .val (.ref o3_)] [(.ref o3_)])) t → Steps p.tables e below (s₁.setTop (entryFrame m #[(.ref o0_)] 2)) t := by
      intro t kt
      refine pre4 t ?_
      show Steps p.tables e below (T1.setTop (mkF m 4 #[.val (.ref o0_), .unset] [(.int (8 : Int32))])) _
      refine XS.tswIn X1.here hx rfl (pc0 := 4) (pc' := 80) (o := 76) rfl (hb hby d9_4) rfl (by decide) rfl (by decide) (by decide) ?_
      show Steps p.tables e below (T1.setTop (mkF m 80 #[.val (.ref o0_), .unset] [])) _
      refine st5 _ ?_
      show Steps p.tables e below (T5.setTop (mkF m 83 #[.val (.ref o0_), .unset] [(.ref o3_)])) _
      refine XS.astoreN X5.here hx rfl (hb hby d9_83) rfl rfl (l' := #[.val (.ref o0_), .val (.ref o3_)]) rfl ?_
      show Steps p.tables e below (T5.setTop (mkF m 84 #[.val (.ref o0_), .val (.ref o3_)] [])) _
      refine XS.goto X5.here hx rfl (pc0 := 84) (pc' := 97) rfl (hb hby d9_84) (by decide) (by decide) ?_
      show Steps p.tables e below (T5.setTop (mkF m 97 #[.val (.ref o0_), .val (.ref o3_)] [])) _
      refine XS.aloadN X5.here hx rfl (hb hby d9_97) rfl rfl ?_
      exact kt
    obtain ⟨fs, hr, hrun, hended, hW, hsame⟩ := X5.leave (v := some (.ref o3_)) (fun h => by rw [Bd.returns] at h; cases h)
    refine ⟨_, _, pre6 _ (retOut X5 hx Bd.returns rfl (Or.inr (Or.inr (Or.inr (Or.inr ⟨rfl, rfl, rfl⟩)))) (hb hby d9_98) hr), hrun, hended, _, _, rfl, ?_, ⟨_, rfl⟩, hW, hsame.mono (by decide) (by decide)⟩
    show Qkind12 Z o0_ x0_ o1_ x1_ o2_ ko2_ x2_ o3_ h0 n0 _ T5.heap _
    rw [e5]
    exact ⟨rfl, N0, rfl⟩
  · exfalso
    have lt_0 : ((6 : Int32)).toInt = 6 := rfl
    have lt_1 : ((8 : Int32)).toInt = 8 := rfl
    simp only [Int32.lt_iff_toInt_lt, Int64.lt_iff_toInt_lt, ← Int32.toInt_inj, ← Int64.toInt_inj] at ha0 ha1 hv3
    omega
theorem efisReference13 (m : MethodId) (o0_ : Addr) : entryFrame m #[(.ref o0_)] 1 = mkF m 0 #[.val (.ref o0_)] [] := by first | (simp [entryFrame, mkF, argsToLocals, Value.category]; done) | rfl
def QisReference13 (Z : State) (o0_ : Addr) (x0_ : Int32) (o1_ : Addr) (x1_ : Int32) (o2_ : Addr) (ko2_ : ClassId) (x2_ : Int32) (h0 : Heap) (n0 : Nat) (v : Option Value) (h : Heap) (L : List Loc) : Prop := v = some (.int (0 : Int32)) ∧ Fr n0 L ∧ h = h0
set_option maxRecDepth 65536 in
set_option maxHeartbeats 40000000 in
theorem rmisReference13 (l : Launch) (Z : State) (a0 : Array Value) (hw : ∀ d ∈ tables_1, d.before a0 Z = true) (ws : List Jvm.Cond) (o0_ : Addr) (x0_ : Int32) (o1_ : Addr) (x1_ : Int32) (o2_ : Addr) (ko2_ : ClassId) (x2_ : Int32) (h0 : Heap) (n0 : Nat) (O0 : Old Z n0 h0) (ha0 : ¬ (x0_ = (6 : Int32))) (ha1 : x0_ = (8 : Int32)) (P2 : Exa Z h0 o0_ "com/example/stackweave/stackweave/classfile/VerificationType") (P3 : Fld Z h0 o0_ "com/example/stackweave/stackweave/classfile/VerificationType" "tag" "I" (.int x0_)) (P4 : Fld Z h0 o0_ "com/example/stackweave/stackweave/classfile/VerificationType" "className" "Ljava/lang/String;" (.ref o1_)) (P5 : Fld Z h0 o0_ "com/example/stackweave/stackweave/classfile/VerificationType" "newOffset" "I" (.int x1_)) (P6 : Exa Z h0 o1_ "java/lang/String") (P7 : Fld Z h0 o1_ "java/lang/String" "coder" "B" (.int (0 : Int32))) (P8 : Fld Z h0 o1_ "java/lang/String" "value" "[B" (.ref o2_)) (P9 : Arv Z h0 o2_ ko2_ .byte (1 : Int32) [(.int x2_)] (.int (0 : Int32))) (P10 : Exa Z h0 o2_ "[B") :
    MetFree l (⟨"com/example/stackweave/stackweave/classfile/VerificationType", "isReference", "()Z"⟩ : MethodName) (head1 (Jvm.Cond.code (⟨"com/example/stackweave/stackweave/classfile/VerificationType", "isReference", "()Z"⟩ : MethodName) prog_38_method_10_code 1 (some .boolean) :: ws) ({ frames := 0, cells := 0, slots := 0, locals := 0 } : Room)) (fun a U => a = #[(.ref o0_)] ∧ Z.Warmed39 U.vm ∧ U.heap = h0) (fun _ _ _ _ _ => True) (fun _ U o U' => ∃ v L, o = .returned v ∧ QisReference13 Z o0_ x0_ o1_ x1_ o2_ ko2_ x2_ h0 n0 v U'.heap L ∧ FrameEnd U o U' L ({ frames := 0, cells := 0, slots := 0, locals := 0 } : Room).cells ({ frames := 0, cells := 0, slots := 0, locals := 0 } : Room).slots) := by
  refine MetFree.of_bodySF (plainFor_of_name pn_3) hisR ?_
  intro p e s m args below meth c s₁ Bd hml0 hP hK
  obtain ⟨rfl, hZ, hh⟩ := hP
  have hx := Bd.exec
  have hby := Bd.bytes
  have hml : c.maxLocals = 1 := hml0
  have hown : s.vm.findClass "com/example/stackweave/stackweave/classfile/VerificationType" = some m.cls := findClass_of_methodNamed Bd.named
  have hnm := (name_of_methodNamed Bd.named Bd.method).1
  have X0 : Stand p l e ({ frames := 0, cells := 0, slots := 0, locals := 0 } : Room) s m #[(.ref o0_)] below meth c s₁ [] 0 0 := Stand.of_body Bd
  have e0 : s₁.heap = h0 := by rw [← hh, Bd.state]; rfl
  have N0 := Fr.nil n0
  have pre0 : ∀ t, Steps p.tables e below (s₁.setTop (mkF m 0 #[.val (.ref o0_)] [])) t → Steps p.tables e below (s₁.setTop (entryFrame m #[(.ref o0_)] 1)) t := fun t k => castTop (efisReference13 m o0_) k
  have K0 : Keep h0 h0 [] := Keep.refl _ _
  obtain ⟨T1, X1, e1, st1⟩ := getF X0 hx hZ hown (host := "") (Or.inl (hw _ (List.mem_of_getElem? (i := 43) rfl))) Via.refl e0 P3 (g := (mkF m 1 #[.val (.ref o0_)] [(.ref o0_)])) rfl rfl (hb hby d10_1)
  obtain ⟨T2, X2, e2, st2⟩ := getF X1 hx hZ hown (host := "") (Or.inl (hw _ (List.mem_of_getElem? (i := 43) rfl))) Via.refl e1 P3 (g := (mkF m 10 #[.val (.ref o0_)] [(.ref o0_)])) rfl rfl (hb hby d10_10)
  have pre3 : ∀ t, Steps p.tables e below (T2.setTop (mkF m 22 #[.val (.ref o0_)] [(.int (0 : Int32))])) t → Steps p.tables e below (s₁.setTop (entryFrame m #[(.ref o0_)] 1)) t := by
    intro t kt
    refine pre0 t ?_
    show Steps p.tables e below (s₁.setTop (mkF m 0 #[.val (.ref o0_)] [])) _
    refine XS.aloadN X0.here hx rfl (hb hby d10_0) rfl rfl ?_
    show Steps p.tables e below (s₁.setTop (mkF m 1 #[.val (.ref o0_)] [(.ref o0_)])) _
    refine st1 _ ?_
    show Steps p.tables e below (T1.setTop (mkF m 4 #[.val (.ref o0_)] [(.int x0_)])) _
    refine XS.bipush X1.here hx rfl (hb hby d10_4) ?_
    show Steps p.tables e below (T1.setTop (mkF m 6 #[.val (.ref o0_)] [(.int (7 : Int32)), (.int x0_)])) _
    refine XS.icmpNo X1.here hx rfl (hb hby d10_6) rfl (feq (by intro hz; have lt_0 : ((6 : Int32)).toInt = 6 := rfl; have lt_1 : ((7 : Int32)).toInt = 7 := rfl; have lt_2 : ((8 : Int32)).toInt = 8 := rfl; simp only [Int32.lt_iff_toInt_lt, Int64.lt_iff_toInt_lt, ← Int32.toInt_inj, ← Int64.toInt_inj] at hz ha0 ha1; omega)).1 ?_
    show Steps p.tables e below (T1.setTop (mkF m 9 #[.val (.ref o0_)] [])) _
    refine XS.aloadN X1.here hx rfl (hb hby d10_9) rfl rfl ?_
    show Steps p.tables e below (T1.setTop (mkF m 10 #[.val (.ref o0_)] [(.ref o0_)])) _
    refine st2 _ ?_
    show Steps p.tables e below (T2.setTop (mkF m 13 #[.val (.ref o0_)] [(.int x0_)])) _
    refine XS.iconst X2.here hx rfl (hb hby d10_13) ?_
    show Steps p.tables e below (T2.setTop (mkF m 14 #[.val (.ref o0_)] [(.int (5 : Int32)), (.int x0_)])) _
    refine XS.icmpYes X2.here hx rfl (pc0 := 14) (pc' := 21) rfl (hb hby d10_14) rfl (feq (by intro hz; have lt_0 : ((5 : Int32)).toInt = 5 := rfl; have lt_1 : ((6 : Int32)).toInt = 6 := rfl; have lt_2 : ((8 : Int32)).toInt = 8 := rfl; simp only [Int32.lt_iff_toInt_lt, Int64.lt_iff_toInt_lt, ← Int32.toInt_inj, ← Int64.toInt_inj] at hz ha0 ha1; omega)).2 (by decide) (by decide) ?_
    show Steps p.tables e below (T2.setTop (mkF m 21 #[.val (.ref o0_)] [])) _
    refine XS.iconst X2.here hx rfl (hb hby d10_21) ?_
    exact kt
  obtain ⟨fs, hr, hrun, hended, hW, hsame⟩ := X2.leave (v := some (.int (0 : Int32))) (fun h => by rw [Bd.returns] at h; cases h)
  refine ⟨_, _, pre3 _ (retN X2 hx (t := .boolean) Bd.returns (by simp) (hb hby d10_22) hr), hrun, hended, _, _, rfl, ?_, ⟨_, rfl⟩, hW, hsame.mono (by decide) (by decide)⟩
  show QisReference13 Z o0_ x0_ o1_ x1_ o2_ ko2_ x2_ h0 n0 _ T2.heap _
  rw [e2]
  exact ⟨rfl, N0, rfl⟩
theorem d9_52 : decode prog_38_method_13_code 52 = .ok (.getstatic 91, 3) := by decide +kernel
theorem d9_55 : decode prog_38_method_13_code 55 = .ok (.astore_n 1, 1) := by decide +kernel
theorem d9_56 : decode prog_38_method_13_code 56 = .ok (.goto 41, 3) := by decide +kernel
theorem d9_59 : decode prog_38_method_13_code 59 = .ok (.getstatic 103, 3) := by decide +kernel
theorem d9_62 : decode prog_38_method_13_code 62 = .ok (.astore_n 1, 1) := by decide +kernel
theorem d9_63 : decode prog_38_method_13_code 63 = .ok (.goto 34, 3) := by decide +kernel
theorem d9_66 : decode prog_38_method_13_code 66 = .ok (.getstatic 108, 3) := by decide +kernel
theorem d9_69 : decode prog_38_method_13_code 69 = .ok (.astore_n 1, 1) := by decide +kernel
theorem d9_70 : decode prog_38_method_13_code 70 = .ok (.goto 27, 3) := by decide +kernel
theorem d9_73 : decode prog_38_method_13_code 73 = .ok (.getstatic 98, 3) := by decide +kernel
theorem d9_76 : decode prog_38_method_13_code 76 = .ok (.astore_n 1, 1) := by decide +kernel
theorem d9_77 : decode prog_38_method_13_code 77 = .ok (.goto 20, 3) := by decide +kernel
theorem efkind14 (m : MethodId) (o0_ : Addr) : entryFrame m #[(.ref o0_)] 2 = mkF m 0 #[.val (.ref o0_), .unset] [] := by first | (simp [entryFrame, mkF, argsToLocals, Value.category]; done) | rfl
def Qkind14 (Z : State) (o0_ : Addr) (x0_ : Int32) (o1_ : Addr) (x1_ : Int32) (o2_ : Addr) (ko2_ : ClassId) (x2_ : Int32) (o3_ : Addr) (o4_ : Addr) (o5_ : Addr) (o6_ : Addr) (o7_ : Addr) (h0 : Heap) (n0 : Nat) (v : Option Value) (h : Heap) (L : List Loc) : Prop := ∃ r_ : Value, v = some r_ ∧ ((((.ref o3_) : Value) = r_ ∧ (x0_ = (1 : Int32))) ∨ (((.ref o4_) : Value) = r_ ∧ (¬ (x0_ = (1 : Int32))) ∧ (x0_ = (2 : Int32))) ∨ (((.ref o5_) : Value) = r_ ∧ (¬ (x0_ = (1 : Int32))) ∧ (¬ (x0_ = (2 : Int32))) ∧ (x0_ = (3 : Int32))) ∨ (((.ref o6_) : Value) = r_ ∧ (¬ (x0_ = (1 : Int32))) ∧ (¬ (x0_ = (2 : Int32))) ∧ (¬ (x0_ = (3 : Int32))) ∧ (x0_ = (4 : Int32))) ∨ (((.ref o7_) : Value) = r_ ∧ (¬ (x0_ = (1 : Int32))) ∧ (¬ (x0_ = (2 : Int32))) ∧ (¬ (x0_ = (3 : Int32))) ∧ (¬ (x0_ = (4 : Int32))) ∧ (x0_ = (5 : Int32))) ∨ (((.ref o7_) : Value) = r_ ∧ (¬ (x0_ = (1 : Int32))) ∧ (¬ (x0_ = (2 : Int32))) ∧ (¬ (x0_ = (3 : Int32))) ∧ (¬ (x0_ = (4 : Int32))) ∧ (¬ (x0_ = (5 : Int32))) ∧ (x0_ = (7 : Int32)))) ∧ Fr n0 L ∧ h = h0
set_option maxRecDepth 65536 in
set_option maxHeartbeats 40000000 in
theorem rmkind14 (l : Launch) (Z : State) (a0 : Array Value) (hw : ∀ d ∈ tables_1, d.before a0 Z = true) (ws : List Jvm.Cond) (o0_ : Addr) (x0_ : Int32) (o1_ : Addr) (x1_ : Int32) (o2_ : Addr) (ko2_ : ClassId) (x2_ : Int32) (o3_ : Addr) (o4_ : Addr) (o5_ : Addr) (o6_ : Addr) (o7_ : Addr) (h0 : Heap) (n0 : Nat) (O0 : Old Z n0 h0) (ha0 : ¬ (x0_ = (6 : Int32))) (ha1 : ¬ (x0_ = (8 : Int32))) (ha2 : ¬ (x0_ < (1 : Int32))) (ha3 : ¬ ((8 : Int32) < x0_)) (P4 : Exa Z h0 o0_ "com/example/stackweave/stackweave/classfile/VerificationType") (P5 : Fld Z h0 o0_ "com/example/stackweave/stackweave/classfile/VerificationType" "tag" "I" (.int x0_)) (P6 : Fld Z h0 o0_ "com/example/stackweave/stackweave/classfile/VerificationType" "className" "Ljava/lang/String;" (.ref o1_)) (P7 : Fld Z h0 o0_ "com/example/stackweave/stackweave/classfile/VerificationType" "newOffset" "I" (.int x1_)) (P8 : Exa Z h0 o1_ "java/lang/String") (P9 : Fld Z h0 o1_ "java/lang/String" "coder" "B" (.int (0 : Int32))) (P10 : Fld Z h0 o1_ "java/lang/String" "value" "[B" (.ref o2_)) (P11 : Arv Z h0 o2_ ko2_ .byte (1 : Int32) [(.int x2_)] (.int (0 : Int32))) (P12 : Exa Z h0 o2_ "[B") (P13 : Exa Z Z.heap o3_ "com/example/stackweave/stackweave/classfile/ValueKind") (P14 : Fld Z Z.heap o3_ "java/lang/Enum" "ordinal" "I" (.int (0 : Int32))) (P15 : Sta Z Z.heap "com/example/stackweave/stackweave/classfile/ValueKind" "INT" "Lcom/example/stackweave/stackweave/classfile/ValueKind;" (.ref o3_)) (P16 : Exa Z Z.heap o4_ "com/example/stackweave/stackweave/classfile/ValueKind") (P17 : Fld Z Z.heap o4_ "java/lang/Enum" "ordinal" "I" (.int (2 : Int32))) (P18 : Sta Z Z.heap "com/example/stackweave/stackweave/classfile/ValueKind" "FLOAT" "Lcom/example/stackweave/stackweave/classfile/ValueKind;" (.ref o4_)) (P19 : Exa Z Z.heap o5_ "com/example/stackweave/stackweave/classfile/ValueKind") (P20 : Fld Z Z.heap o5_ "java/lang/Enum" "ordinal" "I" (.int (3 : Int32))) (P21 : Sta Z Z.heap "com/example/stackweave/stackweave/classfile/ValueKind" "DOUBLE" "Lcom/example/stackweave/stackweave/classfile/ValueKind;" (.ref o5_)) (P22 : Exa Z Z.heap o6_ "com/example/stackweave/stackweave/classfile/ValueKind") (P23 : Fld Z Z.heap o6_ "java/lang/Enum" "ordinal" "I" (.int (1 : Int32))) (P24 : Sta Z Z.heap "com/example/stackweave/stackweave/classfile/ValueKind" "LONG" "Lcom/example/stackweave/stackweave/classfile/ValueKind;" (.ref o6_)) (P25 : Exa Z Z.heap o7_ "com/example/stackweave/stackweave/classfile/ValueKind") (P26 : Fld Z Z.heap o7_ "java/lang/Enum" "ordinal" "I" (.int (4 : Int32))) (P27 : Sta Z Z.heap "com/example/stackweave/stackweave/classfile/ValueKind" "REFERENCE" "Lcom/example/stackweave/stackweave/classfile/ValueKind;" (.ref o7_)) :
    MetFree l (⟨"com/example/stackweave/stackweave/classfile/VerificationType", "kind", "()Lcom/example/stackweave/stackweave/classfile/ValueKind;"⟩ : MethodName) (head1 (Jvm.Cond.code (⟨"com/example/stackweave/stackweave/classfile/VerificationType", "kind", "()Lcom/example/stackweave/stackweave/classfile/ValueKind;"⟩ : MethodName) prog_38_method_13_code 2 (some (.object "com/example/stackweave/stackweave/classfile/ValueKind")) :: ws) ({ frames := 0, cells := 0, slots := 0, locals := 0 } : Room)) (fun a U => a = #[(.ref o0_)] ∧ Z.Warmed39 U.vm ∧ U.heap = h0) (fun _ _ _ _ _ => True) (fun _ U o U' => ∃ v L, o = .returned v ∧ Qkind14 Z o0_ x0_ o1_ x1_ o2_ ko2_ x2_ o3_ o4_ o5_ o6_ o7_ h0 n0 v U'.heap L ∧ FrameEnd U o U' L ({ frames := 0, cells := 0, slots := 0, locals := 0 } : Room).cells ({ frames := 0, cells := 0, slots := 0, locals := 0 } : Room).slots) := by
  refine MetFree.of_bodySF (plainFor_of_name pn_3) hisR ?_
  intro p e s m args below meth c s₁ Bd hml0 hP hK
  obtain ⟨rfl, hZ, hh⟩ := hP
  have hx := Bd.exec
  have hby := Bd.bytes
  have hml : c.maxLocals = 2 := hml0
  have hown : s.vm.findClass "com/example/stackweave/stackweave/classfile/VerificationType" = some m.cls := findClass_of_methodNamed Bd.named
  have hnm := (name_of_methodNamed Bd.named Bd.method).1
  have X0 : Stand p l e ({ frames := 0, cells := 0, slots := 0, locals := 0 } : Room) s m #[(.ref o0_)] below meth c s₁ [] 0 0 := Stand.of_body Bd
  have e0 : s₁.heap = h0 := by rw [← hh, Bd.state]; rfl
  have N0 := Fr.nil n0
  have pre0 : ∀ t, Steps p.tables e below (s₁.setTop (mkF m 0 #[.val (.ref o0_), .unset] [])) t → Steps p.tables e below (s₁.setTop (entryFrame m #[(.ref o0_)] 2)) t := fun t k => castTop (efkind14 m o0_) k
  have K0 : Keep h0 h0 [] := Keep.refl _ _
  obtain ⟨T1, X1, e1, st1⟩ := getF X0 hx hZ hown (host := "") (Or.inl (hw _ (List.mem_of_getElem? (i := 43) rfl))) Via.refl e0 P5 (g := (mkF m 1 #[.val (.ref o0_), .unset] [(.ref o0_)])) rfl rfl (hb hby d9_1)
  have pre2 : ∀ t, Steps p.tables e below (T1.setTop (mkF m 4 #[.val (.ref o0_), .unset] [(.int x0_)])) t → Steps p.tables e below (s₁.setTop (entryFrame m #[(.ref o0_)] 2)) t := by
    intro t kt
    refine pre0 t ?_
    show Steps p.tables e below (s₁.setTop (mkF m 0 #[.val (.ref o0_), .unset] [])) _
    refine XS.aloadN X0.here hx rfl (hb hby d9_0) rfl rfl ?_
    show Steps p.tables e below (s₁.setTop (mkF m 1 #[.val (.ref o0_), .unset] [(.ref o0_)])) _
    refine st1 _ ?_
    exact kt
  by_cases hv3 : x0_ = (1 : Int32)
  · have pre4 : ∀ t, Steps p.tables e below (T1.setTop (mkF m 4 #[.val (.ref o0_), .unset] [(.int (1 : Int32))])) t → Steps p.tables e below (s₁.setTop (entryFrame m #[(.ref o0_)] 2)) t := fun t kt => pre2 t (by rw [hv3]; exact kt)
    obtain ⟨T5, X5, e5, st5⟩ := getS2 X1 hx hZ hown (host := "") (Or.inl (hw _ (List.mem_of_getElem? (i := 59) rfl))) Via.refl e1 (P15.ext O0.2) (g := (mkF m 52 #[.val (.ref o0_), .unset] [])) rfl (hb hby d9_52)
    have pre6 : ∀ t, Steps p.tables e below (T5.setTop (mkF m 98 #[.val (.ref o0_), .val (.ref o3_)] [(.ref o3_)])) t → Steps p.tables e below (s₁.setTop (entryFrame m #[(.ref o0_)] 2)) t := by
      intro t kt
      refine pre4 t ?_
      show Steps p.tables e below (T1.setTop (mkF m 4 #[.val (.ref o0_), .unset] [(.int (1 : Int32))])) _
      refine XS.tswIn X1.here hx rfl (pc0 := 4) (pc' := 52) (o := 48) rfl (hb hby d9_4) rfl (by decide) rfl (by decide) (by decide) ?_
      show Steps p.tables e below (T1.setTop (mkF m 52 #[.val (.ref o0_), .unset] [])) _
      refine st5 _ ?_
      show Steps p.tables e below (T5.setTop (mkF m 55 #[.val (.ref o0_), .unset] [(.ref o3_)])) _
      refine XS.astoreN X5.here hx rfl (hb hby d9_55) rfl rfl (l' := #[.val (.ref o0_), .val (.ref o3_)]) rfl ?_
      show Steps p.tables e below (T5.setTop (mkF m 56 #[.val (.ref o0_), .val (.ref o3_)] [])) _
      refine XS.goto X5.here hx rfl (pc0 := 56) (pc' := 97) rfl (hb hby d9_56) (by decide) (by decide) ?_
      show Steps p.tables e below (T5.setTop (mkF m 97 #[.val (.ref o0_), .val (.ref o3_)] [])) _
      refine XS.aloadN X5.here hx rfl (hb hby d9_97) rfl rfl ?_
      exact kt
    obtain ⟨fs, hr, hrun, hended, hW, hsame⟩ := X5.leave (v := some (.ref o3_)) (fun h => by rw [Bd.returns] at h; cases h)
    refine ⟨_, _, pre6 _ (retOut X5 hx Bd.returns rfl (Or.inr (Or.inr (Or.inr (Or.inr ⟨rfl, rfl, rfl⟩)))) (hb hby d9_98) hr), hrun, hended, _, _, rfl, ?_, ⟨_, rfl⟩, hW, hsame.mono (by decide) (by decide)⟩
    show Qkind14 Z o0_ x0_ o1_ x1_ o2_ ko2_ x2_ o3_ o4_ o5_ o6_ o7_ h0 n0 _ T5.heap _
    rw [e5]
    exact ⟨(.ref o3_), rfl, (Or.inl ⟨rfl, hv3⟩), N0, rfl⟩
  · by_cases hv8 : x0_ = (2 : Int32)
    · have pre9 : ∀ t, Steps p.tables e below (T1.setTop (mkF m 4 #[.val (.ref o0_), .unset] [(.int (2 : Int32))])) t → Steps p.tables e below (s₁.setTop (entryFrame m #[(.ref o0_)] 2)) t := fun t kt => pre2 t (by rw [hv8]; exact kt)
      obtain ⟨T10, X10, e10, st10⟩ := getS2 X1 hx hZ hown (host := "") (Or.inl (hw _ (List.mem_of_getElem? (i := 66) rfl))) Via.refl e1 (P18.ext O0.2) (g := (mkF m 59 #[.val (.ref o0_), .unset] [])) rfl (hb hby d9_59)
      have pre11 : ∀ t, Steps p.tables e below (T10.setTop (mkF m 98 #[.val (.ref o0_), .val (.ref o4_)] [(.ref o4_)])) t → Steps p.tables e below (s₁.setTop (entryFrame m #[(.ref o0_)] 2)) t := by
        intro t kt
        refine pre9 t ?_
        show Steps p.tables e below (T1.setTop (mkF m 4 #[.val (.ref o0_), .unset] [(.int (2 : Int32))])) _
        refine XS.tswIn X1.here hx rfl (pc0 := 4) (pc' := 59) (o := 55) rfl (hb hby d9_4) rfl (by decide) rfl (by decide) (by decide) ?_
        show Steps p.tables e below (T1.setTop (mkF m 59 #[.val (.ref o0_), .unset] [])) _
        refine st10 _ ?_
        show Steps p.tables e below (T10.setTop (mkF m 62 #[.val (.ref o0_), .unset] [(.ref o4_)])) _
        refine XS.astoreN X10.here hx rfl (hb hby d9_62) rfl rfl (l' := #[.val (.ref o0_), .val (.ref o4_)]) rfl ?_
        show Steps p.tables e below (T10.setTop (mkF m 63 #[.val (.ref o0_), .val (.ref o4_)] [])) _
        refine XS.goto X10.here hx rfl (pc0 := 63) (pc' := 97) rfl (hb hby d9_63) (by decide) (by decide) ?_
        show Steps p.tables e below (T10.setTop (mkF m 97 #[.val (.ref o0_), .val (.ref o4_)] [])) _
        refine XS.aloadN X10.here hx rfl (hb hby d9_97) rfl rfl ?_
        exact kt
      obtain ⟨fs, hr, hrun, hended, hW, hsame⟩ := X10.leave (v := some (.ref o4_)) (fun h => by rw [Bd.returns] at h; cases h)
      refine ⟨_, _, pre11 _ (retOut X10 hx Bd.returns rfl (Or.inr (Or.inr (Or.inr (Or.inr ⟨rfl, rfl, rfl⟩)))) (hb hby d9_98) hr), hrun, hended, _, _, rfl, ?_, ⟨_, rfl⟩, hW, hsame.mono (by decide) (by decide)⟩
      show Qkind14 Z o0_ x0_ o1_ x1_ o2_ ko2_ x2_ o3_ o4_ o5_ o6_ o7_ h0 n0 _ T10.heap _
      rw [e10]
      exact ⟨(.ref o4_), rfl, (Or.inr (Or.inl ⟨rfl, hv3, hv8⟩)), N0, rfl⟩
    · by_cases hv13 : x0_ = (3 : Int32)
      · have pre14 : ∀ t, Steps p.tables e below (T1.setTop (mkF m 4 #[.val (.ref o0_), .unset] [(.int (3 : Int32))])) t → Steps p.tables e below (s₁.setTop (entryFrame m #[(.ref o0_)] 2)) t := fun t kt => pre2 t (by rw [hv13]; exact kt)
        obtain ⟨T15, X15, e15, st15⟩ := getS2 X1 hx hZ hown (host := "") (Or.inl (hw _ (List.mem_of_getElem? (i := 64) rfl))) Via.refl e1 (P21.ext O0.2) (g := (mkF m 66 #[.val (.ref o0_), .unset] [])) rfl (hb hby d9_66)
        have pre16 : ∀ t, Steps p.tables e below (T15.setTop (mkF m 98 #[.val (.ref o0_), .val (.ref o5_)] [(.ref o5_)])) t → Steps p.tables e below (s₁.setTop (entryFrame m #[(.ref o0_)] 2)) t := by
          intro t kt
          refine pre14 t ?_
          show Steps p.tables e below (T1.setTop (mkF m 4 #[.val (.ref o0_), .unset] [(.int (3 : Int32))])) _
          refine XS.tswIn X1.here hx rfl (pc0 := 4) (pc' := 66) (o := 62) rfl (hb hby d9_4) rfl (by decide) rfl (by decide) (by decide) ?_
          show Steps p.tables e below (T1.setTop (mkF m 66 #[.val (.ref o0_), .unset] [])) _
          refine st15 _ ?_
          show Steps p.tables e below (T15.setTop (mkF m 69 #[.val (.ref o0_), .unset] [(.ref o5_)])) _
          refine XS.astoreN X15.here hx rfl (hb hby d9_69) rfl rfl (l' := #[.val (.ref o0_), .val (.ref o5_)]) rfl ?_
          show Steps p.tables e below (T15.setTop (mkF m 70 #[.val (.ref o0_), .val (.ref o5_)] [])) _
          refine XS.goto X15.here hx rfl (pc0 := 70) (pc' := 97) rfl (hb hby d9_70) (by decide) (by decide) ?_
          show Steps p.tables e below (T15.setTop (mkF m 97 #[.val (.ref o0_), .val (.ref o5_)] [])) _
          refine XS.aloadN X15.here hx rfl (hb hby d9_97) rfl rfl ?_
          exact kt
        obtain ⟨fs, hr, hrun, hended, hW, hsame⟩ := X15.leave (v := some (.ref o5_)) (fun h => by rw [Bd.returns] at h; cases h)
        refine ⟨_, _, pre16 _ (retOut X15 hx Bd.returns rfl (Or.inr (Or.inr (Or.inr (Or.inr ⟨rfl, rfl, rfl⟩)))) (hb hby d9_98) hr), hrun, hended, _, _, rfl, ?_, ⟨_, rfl⟩, hW, hsame.mono (by decide) (by decide)⟩
        show Qkind14 Z o0_ x0_ o1_ x1_ o2_ ko2_ x2_ o3_ o4_ o5_ o6_ o7_ h0 n0 _ T15.heap _
        rw [e15]
        exact ⟨(.ref o5_), rfl, (Or.inr (Or.inr (Or.inl ⟨rfl, hv3, hv8, hv13⟩))), N0, rfl⟩
      · by_cases hv18 : x0_ = (4 : Int32)
        · have pre19 : ∀ t, Steps p.tables e below (T1.setTop (mkF m 4 #[.val (.ref o0_), .unset] [(.int (4 : Int32))])) t → Steps p.tables e below (s₁.setTop (entryFrame m #[(.ref o0_)] 2)) t := fun t kt => pre2 t (by rw [hv18]; exact kt)
          obtain ⟨T20, X20, e20, st20⟩ := getS2 X1 hx hZ hown (host := "") (Or.inl (hw _ (List.mem_of_getElem? (i := 74) rfl))) Via.refl e1 (P24.ext O0.2) (g := (mkF m 73 #[.val (.ref o0_), .unset] [])) rfl (hb hby d9_73)
          have pre21 : ∀ t, Steps p.tables e below (T20.setTop (mkF m 98 #[.val (.ref o0_), .val (.ref o6_)] [(.ref o6_)])) t → Steps p.tables e below (s₁.setTop (entryFrame m #[(.ref o0_)] 2)) t := by
            intro t kt
            refine pre19 t ?_
            show Steps p.tables e below (T1.setTop (mkF m 4 #[.val (.ref o0_), .unset] [(.int (4 : Int32))])) _
            refine XS.tswIn X1.here hx rfl (pc0 := 4) (pc' := 73) (o := 69) rfl (hb hby d9_4) rfl (by decide) rfl (by decide) (by decide) ?_
            show Steps p.tables e below (T1.setTop (mkF m 73 #[.val (.ref o0_), .unset] [])) _
            refine st20 _ ?_
            show Steps p.tables e below (T20.setTop (mkF m 76 #[.val (.ref o0_), .unset] [(.ref o6_)])) _
            refine XS.astoreN X20.here hx rfl (hb hby d9_76) rfl rfl (l' := #[.val (.ref o0_), .val (.ref o6_)]) rfl ?_
            show Steps p.tables e below (T20.setTop (mkF m 77 #[.val (.ref o0_), .val (.ref o6_)] [])) _
            refine XS.goto X20.here hx rfl (pc0 := 77) (pc' := 97) rfl (hb hby d9_77) (by decide) (by decide) ?_
            show Steps p.tables e below (T20.setTop (mkF m 97 #[.val (.ref o0_), .val (.ref o6_)] [])) _
            refine XS.aloadN X20.here hx rfl (hb hby d9_97) rfl rfl ?_
            exact kt
          obtain ⟨fs, hr, hrun, hended, hW, hsame⟩ := X20.leave (v := some (.ref o6_)) (fun h => by rw [Bd.returns] at h; cases h)
          refine ⟨_, _, pre21 _ (retOut X20 hx Bd.returns rfl (Or.inr (Or.inr (Or.inr (Or.inr ⟨rfl, rfl, rfl⟩)))) (hb hby d9_98) hr), hrun, hended, _, _, rfl, ?_, ⟨_, rfl⟩, hW, hsame.mono (by decide) (by decide)⟩
          show Qkind14 Z o0_ x0_ o1_ x1_ o2_ ko2_ x2_ o3_ o4_ o5_ o6_ o7_ h0 n0 _ T20.heap _
          rw [e20]
          exact ⟨(.ref o6_), rfl, (Or.inr (Or.inr (Or.inr (Or.inl ⟨rfl, hv3, hv8, hv13, hv18⟩)))), N0, rfl⟩
        · by_cases hv23 : x0_ = (5 : Int32)
          · have pre24 : ∀ t, Steps p.tables e below (T1.setTop (mkF m 4 #[.val (.ref o0_), .unset] [(.int (5 : Int32))])) t → Steps p.tables e below (s₁.setTop (entryFrame m #[(.ref o0_)] 2)) t := fun t kt => pre2 t (by rw [hv23]; exact kt)
            obtain ⟨T25, X25, e25, st25⟩ := getS2 X1 hx hZ hown (host := "") (Or.inl (hw _ (List.mem_of_getElem? (i := 68) rfl))) Via.refl e1 (P27.ext O0.2) (g := (mkF m 80 #[.val (.ref o0_), .unset] [])) rfl (hb hby d9_80)
            have pre26 : ∀ t, Steps p.tables e below (T25.setTop (mkF m 98 #[.val (.ref o0_), .val (.ref o7_)] [(.ref o7_)])) t → Steps p.tables e below (s₁.setTop (entryFrame m #[(.ref o0_)] 2)) t := by
              intro t kt
              refine pre24 t ?_
              show Steps p.tables e below (T1.setTop (mkF m 4 #[.val (.ref o0_), .unset] [(.int (5 : Int32))])) _
              refine XS.tswIn X1.here hx rfl (pc0 := 4) (pc' := 80) (o := 76) rfl (hb hby d9_4) rfl (by decide) rfl (by decide) (by decide) ?_
              show Steps p.tables e below (T1.setTop (mkF m 80 #[.val (.ref o0_), .unset] [])) _
              refine st25 _ ?_
              show Steps p.tables e below (T25.setTop (mkF m 83 #[.val (.ref o0_), .unset] [(.ref o7_)])) _
              refine XS.astoreN X25.here hx rfl (hb hby d9_83) rfl rfl (l' := #[.val (.ref o0_), .val (.ref o7_)]) rfl ?_
              show Steps p.tables e below (T25.setTop (mkF m 84 #[.val (.ref o0_), .val (.ref o7_)] [])) _
              refine XS.goto X25.here hx rfl (pc0 := 84) (pc' := 97) rfl (hb hby d9_84) (by decide) (by decide) ?_
              show Steps p.tables e below (T25.setTop (mkF m 97 #[.val (.ref o0_), .val (.ref o7_)] [])) _
              refine XS.aloadN X25.here hx rfl (hb hby d9_97) rfl rfl ?_
              exact kt
            obtain ⟨fs, hr, hrun, hended, hW, hsame⟩ := X25.leave (v := some (.ref o7_)) (fun h => by rw [Bd.returns] at h; cases h)
            refine ⟨_, _, pre26 _ (retOut X25 hx Bd.returns rfl (Or.inr (Or.inr (Or.inr (Or.inr ⟨rfl, rfl, rfl⟩)))) (hb hby d9_98) hr), hrun, hended, _, _, rfl, ?_, ⟨_, rfl⟩, hW, hsame.mono (by decide) (by decide)⟩
            show Qkind14 Z o0_ x0_ o1_ x1_ o2_ ko2_ x2_ o3_ o4_ o5_ o6_ o7_ h0 n0 _ T25.heap _
            rw [e25]
            exact ⟨(.ref o7_), rfl, (Or.inr (Or.inr (Or.inr (Or.inr (Or.inl ⟨rfl, hv3, hv8, hv13, hv18, hv23⟩))))), N0, rfl⟩
          · by_cases hv28 : x0_ = (7 : Int32)
            · have pre29 : ∀ t, Steps p.tables e below (T1.setTop (mkF m 4 #[.val (.ref o0_), .unset] [(.int (7 : Int32))])) t → Steps p.tables e below (s₁.setTop (entryFrame m #[(.ref o0_)] 2)) t := fun t kt => pre2 t (by rw [hv28]; exact kt)
              obtain ⟨T30, X30, e30, st30⟩ := getS2 X1 hx hZ hown (host := "") (Or.inl (hw _ (List.mem_of_getElem? (i := 68) rfl))) Via.refl e1 (P27.ext O0.2) (g := (mkF m 80 #[.val (.ref o0_), .unset] [])) rfl (hb hby d9_80)
              have pre31 : ∀ t, Steps p.tables e below (T30.setTop (mkF m 98 #[.val (.ref o0_), .val (.ref o7_)] [(.ref o7_)])) t → Steps p.tables e below (s₁.setTop (entryFrame m #[(.ref o0_)] 2)) t := by
                intro t kt
                refine pre29 t ?_
                show Steps p.tables e below (T1.setTop (mkF m 4 #[.val (.ref o0_), .unset] [(.int (7 : Int32))])) _
                refine XS.tswIn X1.here hx rfl (pc0 := 4) (pc' := 80) (o := 76) rfl (hb hby d9_4) rfl (by decide) rfl (by decide) (by decide) ?_
                show Steps p.tables e below (T1.setTop (mkF m 80 #[.val (.ref o0_), .unset] [])) _
                refine st30 _ ?_
                show Steps p.tables e below (T30.setTop (mkF m 83 #[.val (.ref o0_), .unset] [(.ref o7_)])) _
                refine XS.astoreN X30.here hx rfl (hb hby d9_83) rfl rfl (l' := #[.val (.ref o0_), .val (.ref o7_)]) rfl ?_
                show Steps p.tables e below (T30.setTop (mkF m 84 #[.val (.ref o0_), .val (.ref o7_)] [])) _
                refine XS.goto X30.here hx rfl (pc0 := 84) (pc' := 97) rfl (hb hby d9_84) (by decide) (by decide) ?_
                show Steps p.tables e below (T30.setTop (mkF m 97 #[.val (.ref o0_), .val (.ref o7_)] [])) _
                refine XS.aloadN X30.here hx rfl (hb hby d9_97) rfl rfl ?_
                exact kt
              obtain ⟨fs, hr, hrun, hended, hW, hsame⟩ := X30.leave (v := some (.ref o7_)) (fun h => by rw [Bd.returns] at h; cases h)
              refine ⟨_, _, pre31 _ (retOut X30 hx Bd.returns rfl (Or.inr (Or.inr (Or.inr (Or.inr ⟨rfl, rfl, rfl⟩)))) (hb hby d9_98) hr), hrun, hended, _, _, rfl, ?_, ⟨_, rfl⟩, hW, hsame.mono (by decide) (by decide)⟩
              show Qkind14 Z o0_ x0_ o1_ x1_ o2_ ko2_ x2_ o3_ o4_ o5_ o6_ o7_ h0 n0 _ T30.heap _
              rw [e30]
              exact ⟨(.ref o7_), rfl, (Or.inr (Or.inr (Or.inr (Or.inr (Or.inr ⟨rfl, hv3, hv8, hv13, hv18, hv23, hv28⟩))))), N0, rfl⟩
            · exfalso
              have lt_0 : ((1 : Int32)).toInt = 1 := rfl
              have lt_1 : ((2 : Int32)).toInt = 2 := rfl
              have lt_2 : ((3 : Int32)).toInt = 3 := rfl
              have lt_3 : ((4 : Int32)).toInt = 4 := rfl
              have lt_4 : ((5 : Int32)).toInt = 5 := rfl
              have lt_5 : ((6 : Int32)).toInt = 6 := rfl
              have lt_6 : ((7 : Int32)).toInt = 7 := rfl
              have lt_7 : ((8 : Int32)).toInt = 8 := rfl
              simp only [Int32.lt_iff_toInt_lt, Int64.lt_iff_toInt_lt, ← Int32.toInt_inj, ← Int64.toInt_inj] at ha0 ha1 ha2 ha3 hv3 hv8 hv13 hv18 hv23 hv28
              omega
theorem d10_17 : decode prog_38_method_10_code 17 = .ok (.iconst 1, 1) := by decide +kernel
theorem d10_18 : decode prog_38_method_10_code 18 = .ok (.goto 4, 3) := by decide +kernel
theorem efisReference15 (m : MethodId) (o0_ : Addr) : entryFrame m #[(.ref o0_)] 1 = mkF m 0 #[.val (.ref o0_)] [] := by first | (simp [entryFrame, mkF, argsToLocals, Value.category]; done) | rfl
def QisReference15 (Z : State) (o0_ : Addr) (x0_ : Int32) (o1_ : Addr) (x1_ : Int32) (o2_ : Addr) (ko2_ : ClassId) (x2_ : Int32) (h0 : Heap) (n0 : Nat) (v : Option Value) (h : Heap) (L : List Loc) : Prop := v = some (.int (1 : Int32)) ∧ Fr n0 L ∧ h = h0
set_option maxRecDepth 65536 in
set_option maxHeartbeats 40000000 in
theorem rmisReference15 (l : Launch) (Z : State) (a0 : Array Value) (hw : ∀ d ∈ tables_1, d.before a0 Z = true) (ws : List Jvm.Cond) (o0_ : Addr) (x0_ : Int32) (o1_ : Addr) (x1_ : Int32) (o2_ : Addr) (ko2_ : ClassId) (x2_ : Int32) (h0 : Heap) (n0 : Nat) (O0 : Old Z n0 h0) (ha0 : ¬ (x0_ = (6 : Int32))) (ha1 : ¬ (x0_ = (8 : Int32))) (ha2 : ¬ (x0_ < (1 : Int32))) (ha3 : ¬ ((8 : Int32) < x0_)) (ha4 : ¬ (x0_ = (1 : Int32))) (ha5 : ¬ (x0_ = (2 : Int32))) (ha6 : ¬ (x0_ = (3 : Int32))) (ha7 : ¬ (x0_ = (4 : Int32))) (ha8 : x0_ = (5 : Int32)) (P9 : Exa Z h0 o0_ "com/example/stackweave/stackweave/classfile/VerificationType") (P10 : Fld Z h0 o0_ "com/example/stackweave/stackweave/classfile/VerificationType" "tag" "I" (.int x0_)) (P11 : Fld Z h0 o0_ "com/example/stackweave/stackweave/classfile/VerificationType" "className" "Ljava/lang/String;" (.ref o1_)) (P12 : Fld Z h0 o0_ "com/example/stackweave/stackweave/classfile/VerificationType" "newOffset" "I" (.int x1_)) (P13 : Exa Z h0 o1_ "java/lang/String") (P14 : Fld Z h0 o1_ "java/lang/String" "coder" "B" (.int (0 : Int32))) (P15 : Fld Z h0 o1_ "java/lang/String" "value" "[B" (.ref o2_)) (P16 : Arv Z h0 o2_ ko2_ .byte (1 : Int32) [(.int x2_)] (.int (0 : Int32))) (P17 : Exa Z h0 o2_ "[B") :
    MetFree l (⟨"com/example/stackweave/stackweave/classfile/VerificationType", "isReference", "()Z"⟩ : MethodName) (head1 (Jvm.Cond.code (⟨"com/example/stackweave/stackweave/classfile/VerificationType", "isReference", "()Z"⟩ : MethodName) prog_38_method_10_code 1 (some .boolean) :: ws) ({ frames := 0, cells := 0, slots := 0, locals := 0 } : Room)) (fun a U => a = #[(.ref o0_)] ∧ Z.Warmed39 U.vm ∧ U.heap = h0) (fun _ _ _ _ _ => True) (fun _ U o U' => ∃ v L, o = .returned v ∧ QisReference15 Z o0_ x0_ o1_ x1_ o2_ ko2_ x2_ h0 n0 v U'.heap L ∧ FrameEnd U o U' L ({ frames := 0, cells := 0, slots := 0, locals := 0 } : Room).cells ({ frames := 0, cells := 0, slots := 0, locals := 0 } : Room).slots) := by
  refine MetFree.of_bodySF (plainFor_of_name pn_3) hisR ?_
  intro p e s m args below meth c s₁ Bd hml0 hP hK
  obtain ⟨rfl, hZ, hh⟩ := hP
  have hx := Bd.exec
  have hby := Bd.bytes
  have hml : c.maxLocals = 1 := hml0
  have hown : s.vm.findClass "com/example/stackweave/stackweave/classfile/VerificationType" = some m.cls := findClass_of_methodNamed Bd.named
  have hnm := (name_of_methodNamed Bd.named Bd.method).1
  have X0 : Stand p l e ({ frames := 0, cells := 0, slots := 0, locals := 0 } : Room) s m #[(.ref o0_)] below meth c s₁ [] 0 0 := Stand.of_body Bd
  have e0 : s₁.heap = h0 := by rw [← hh, Bd.state]; rfl
  have N0 := Fr.nil n0
  have pre0 : ∀ t, Steps p.tables e below (s₁.setTop (mkF m 0 #[.val (.ref o0_)] [])) t → Steps p.tables e below (s₁.setTop (entryFrame m #[(.ref o0_)] 1)) t := fun t k => castTop (efisReference15 m o0_) k
  have K0 : Keep h0 h0 [] := Keep.refl _ _
  obtain ⟨T1, X1, e1, st1⟩ := getF X0 hx hZ hown (host := "") (Or.inl (hw _ (List.mem_of_getElem? (i := 43) rfl))) Via.refl e0 P10 (g := (mkF m 1 #[.val (.ref o0_)] [(.ref o0_)])) rfl rfl (hb hby d10_1)
  obtain ⟨T2, X2, e2, st2⟩ := getF X1 hx hZ hown (host := "") (Or.inl (hw _ (List.mem_of_getElem? (i := 43) rfl))) Via.refl e1 P10 (g := (mkF m 10 #[.val (.ref o0_)] [(.ref o0_)])) rfl rfl (hb hby d10_10)
  have pre3 : ∀ t, Steps p.tables e below (T2.setTop (mkF m 22 #[.val (.ref o0_)] [(.int (1 : Int32))])) t → Steps p.tables e below (s₁.setTop (entryFrame m #[(.ref o0_)] 1)) t := by
    intro t kt
    refine pre0 t ?_
    show Steps p.tables e below (s₁.setTop (mkF m 0 #[.val (.ref o0_)] [])) _
    refine XS.aloadN X0.here hx rfl (hb hby d10_0) rfl rfl ?_
    show Steps p.tables e below (s₁.setTop (mkF m 1 #[.val (.ref o0_)] [(.ref o0_)])) _
    refine st1 _ ?_
    show Steps p.tables e below (T1.setTop (mkF m 4 #[.val (.ref o0_)] [(.int x0_)])) _
    refine XS.bipush X1.here hx rfl (hb hby d10_4) ?_
    show Steps p.tables e below (T1.setTop (mkF m 6 #[.val (.ref o0_)] [(.int (7 : Int32)), (.int x0_)])) _
    refine XS.icmpNo X1.here hx rfl (hb hby d10_6) rfl (feq (by intro hz; have lt_0 : ((1 : Int32)).toInt = 1 := rfl; have lt_1 : ((2 : Int32)).toInt = 2 := rfl; have lt_2 : ((3 : Int32)).toInt = 3 := rfl; have lt_3 : ((4 : Int32)).toInt = 4 := rfl; have lt_4 : ((5 : Int32)).toInt = 5 := rfl; have lt_5 : ((6 : Int32)).toInt = 6 := rfl; have lt_6 : ((7 : Int32)).toInt = 7 := rfl; have lt_7 : ((8 : Int32)).toInt = 8 := rfl; simp only [Int32.lt_iff_toInt_lt, Int64.lt_iff_toInt_lt, ← Int32.toInt_inj, ← Int64.toInt_inj] at hz ha0 ha1 ha2 ha3 ha4 ha5 ha6 ha7 ha8; omega)).1 ?_
    show Steps p.tables e below (T1.setTop (mkF m 9 #[.val (.ref o0_)] [])) _
    refine XS.aloadN X1.here hx rfl (hb hby d10_9) rfl rfl ?_
    show Steps p.tables e below (T1.setTop (mkF m 10 #[.val (.ref o0_)] [(.ref o0_)])) _
    refine st2 _ ?_
    show Steps p.tables e below (T2.setTop (mkF m 13 #[.val (.ref o0_)] [(.int x0_)])) _
    refine XS.iconst X2.here hx rfl (hb hby d10_13) ?_
    show Steps p.tables e below (T2.setTop (mkF m 14 #[.val (.ref o0_)] [(.int (5 : Int32)), (.int x0_)])) _
    refine XS.icmpNo X2.here hx rfl (hb hby d10_14) rfl (teq ha8).2 ?_
    show Steps p.tables e below (T2.setTop (mkF m 17 #[.val (.ref o0_)] [])) _
    refine XS.iconst X2.here hx rfl (hb hby d10_17) ?_
    show Steps p.tables e below (T2.setTop (mkF m 18 #[.val (.ref o0_)] [(.int (1 : Int32))])) _
    refine XS.goto X2.here hx rfl (pc0 := 18) (pc' := 22) rfl (hb hby d10_18) (by decide) (by decide) ?_
    exact kt
  obtain ⟨fs, hr, hrun, hended, hW, hsame⟩ := X2.leave (v := some (.int (1 : Int32))) (fun h => by rw [Bd.returns] at h; cases h)
  refine ⟨_, _, pre3 _ (retN X2 hx (t := .boolean) Bd.returns (by simp) (hb hby d10_22) hr), hrun, hended, _, _, rfl, ?_, ⟨_, rfl⟩, hW, hsame.mono (by decide) (by decide)⟩
  show QisReference15 Z o0_ x0_ o1_ x1_ o2_ ko2_ x2_ h0 n0 _ T2.heap _
  rw [e2]
  exact ⟨rfl, N0, rfl⟩
theorem efisReference16 (m : MethodId) (o0_ : Addr) : entryFrame m #[(.ref o0_)] 1 = mkF m 0 #[.val (.ref o0_)] [] := by first | (simp [entryFrame, mkF, argsToLocals, Value.category]; done) | rfl
def QisReference16 (Z : State) (o0_ : Addr) (x0_ : Int32) (o1_ : Addr) (x1_ : Int32) (o2_ : Addr) (ko2_ : ClassId) (x2_ : Int32) (h0 : Heap) (n0 : Nat) (v : Option Value) (h : Heap) (L : List Loc) : Prop := v = some (.int (1 : Int32)) ∧ Fr n0 L ∧ h = h0
set_option maxRecDepth 65536 in
set_option maxHeartbeats 40000000 in
theorem rmisReference16 (l : Launch) (Z : State) (a0 : Array Value) (hw : ∀ d ∈ tables_1, d.before a0 Z = true) (ws : List Jvm.Cond) (o0_ : Addr) (x0_ : Int32) (o1_ : Addr) (x1_ : Int32) (o2_ : Addr) (ko2_ : ClassId) (x2_ : Int32) (h0 : Heap) (n0 : Nat) (O0 : Old Z n0 h0) (ha0 : ¬ (x0_ = (6 : Int32))) (ha1 : ¬ (x0_ = (8 : Int32))) (ha2 : ¬ (x0_ < (1 : Int32))) (ha3 : ¬ ((8 : Int32) < x0_)) (ha4 : ¬ (x0_ = (1 : Int32))) (ha5 : ¬ (x0_ = (2 : Int32))) (ha6 : ¬ (x0_ = (3 : Int32))) (ha7 : ¬ (x0_ = (4 : Int32))) (ha8 : ¬ (x0_ = (5 : Int32))) (ha9 : x0_ = (7 : Int32)) (P10 : Exa Z h0 o0_ "com/example/stackweave/stackweave/classfile/VerificationType") (P11 : Fld Z h0 o0_ "com/example/stackweave/stackweave/classfile/VerificationType" "tag" "I" (.int x0_)) (P12 : Fld Z h0 o0_ "com/example/stackweave/stackweave/classfile/VerificationType" "className" "Ljava/lang/String;" (.ref o1_)) (P13 : Fld Z h0 o0_ "com/example/stackweave/stackweave/classfile/VerificationType" "newOffset" "I" (.int x1_)) (P14 : Exa Z h0 o1_ "java/lang/String") (P15 : Fld Z h0 o1_ "java/lang/String" "coder" "B" (.int (0 : Int32))) (P16 : Fld Z h0 o1_ "java/lang/String" "value" "[B" (.ref o2_)) (P17 : Arv Z h0 o2_ ko2_ .byte (1 : Int32) [(.int x2_)] (.int (0 : Int32))) (P18 : Exa Z h0 o2_ "[B") :
    MetFree l (⟨"com/example/stackweave/stackweave/classfile/VerificationType", "isReference", "()Z"⟩ : MethodName) (head1 (Jvm.Cond.code (⟨"com/example/stackweave/stackweave/classfile/VerificationType", "isReference", "()Z"⟩ : MethodName) prog_38_method_10_code 1 (some .boolean) :: ws) ({ frames := 0, cells := 0, slots := 0, locals := 0 } : Room)) (fun a U => a = #[(.ref o0_)] ∧ Z.Warmed39 U.vm ∧ U.heap = h0) (fun _ _ _ _ _ => True) (fun _ U o U' => ∃ v L, o = .returned v ∧ QisReference16 Z o0_ x0_ o1_ x1_ o2_ ko2_ x2_ h0 n0 v U'.heap L ∧ FrameEnd U o U' L ({ frames := 0, cells := 0, slots := 0, locals := 0 } : Room).cells ({ frames := 0, cells := 0, slots := 0, locals := 0 } : Room).slots) := by
  refine MetFree.of_bodySF (plainFor_of_name pn_3) hisR ?_
  intro p e s m args below meth c s₁ Bd hml0 hP hK
  obtain ⟨rfl, hZ, hh⟩ := hP
  have hx := Bd.exec
  have hby := Bd.bytes
  have hml : c.maxLocals = 1 := hml0
  have hown : s.vm.findClass "com/example/stackweave/stackweave/classfile/VerificationType" = some m.cls := findClass_of_methodNamed Bd.named
  have hnm := (name_of_methodNamed Bd.named Bd.method).1
  have X0 : Stand p l e ({ frames := 0, cells := 0, slots := 0, locals := 0 } : Room) s m #[(.ref o0_)] below meth c s₁ [] 0 0 := Stand.of_body Bd
  have e0 : s₁.heap = h0 := by rw [← hh, Bd.state]; rfl
  have N0 := Fr.nil n0
  have pre0 : ∀ t, Steps p.tables e below (s₁.setTop (mkF m 0 #[.val (.ref o0_)] [])) t → Steps p.tables e below (s₁.setTop (entryFrame m #[(.ref o0_)] 1)) t := fun t k => castTop (efisReference16 m o0_) k
  have K0 : Keep h0 h0 [] := Keep.refl _ _
  obtain ⟨T1, X1, e1, st1⟩ := getF X0 hx hZ hown (host := "") (Or.inl (hw _ (List.mem_of_getElem? (i := 43) rfl))) Via.refl e0 P11 (g := (mkF m 1 #[.val (.ref o0_)] [(.ref o0_)])) rfl rfl (hb hby d10_1)
  have pre2 : ∀ t, Steps p.tables e below (T1.setTop (mkF m 22 #[.val (.ref o0_)] [(.int (1 : Int32))])) t → Steps p.tables e below (s₁.setTop (entryFrame m #[(.ref o0_)] 1)) t := by
    intro t kt
    refine pre0 t ?_
    show Steps p.tables e below (s₁.setTop (mkF m 0 #[.val (.ref o0_)] [])) _
    refine XS.aloadN X0.here hx rfl (hb hby d10_0) rfl rfl ?_
    show Steps p.tables e below (s₁.setTop (mkF m 1 #[.val (.ref o0_)] [(.ref o0_)])) _
    refine st1 _ ?_
    show Steps p.tables e below (T1.setTop (mkF m 4 #[.val (.ref o0_)] [(.int x0_)])) _
    refine XS.bipush X1.here hx rfl (hb hby d10_4) ?_
    show Steps p.tables e below (T1.setTop (mkF m 6 #[.val (.ref o0_)] [(.int (7 : Int32)), (.int x0_)])) _
    refine XS.icmpYes X1.here hx rfl (pc0 := 6) (pc' := 17) rfl (hb hby d10_6) rfl (teq ha9).1 (by decide) (by decide) ?_
    show Steps p.tables e below (T1.setTop (mkF m 17 #[.val (.ref o0_)] [])) _
    refine XS.iconst X1.here hx rfl (hb hby d10_17) ?_
    show Steps p.tables e below (T1.setTop (mkF m 18 #[.val (.ref o0_)] [(.int (1 : Int32))])) _
    refine XS.goto X1.here hx rfl (pc0 := 18) (pc' := 22) rfl (hb hby d10_18) (by decide) (by decide) ?_
    exact kt
  obtain ⟨fs, hr, hrun, hended, hW, hsame⟩ := X1.leave (v := some (.int (1 : Int32))) (fun h => by rw [Bd.returns] at h; cases h)
  refine ⟨_, _, pre2 _ (retN X1 hx (t := .boolean) Bd.returns (by simp) (hb hby d10_22) hr), hrun, hended, _, _, rfl, ?_, ⟨_, rfl⟩, hW, hsame.mono (by decide) (by decide)⟩
  show QisReference16 Z o0_ x0_ o1_ x1_ o2_ ko2_ x2_ h0 n0 _ T1.heap _
  rw [e1]
  exact ⟨rfl, N0, rfl⟩
theorem pn_4 : plainName "com/example/stackweave/stackweave/classfile/VerificationTypeIsUninitializedPinLaw" = true := by first | (simp [plainName, overriddenIn]; done) | decide +kernel
theorem efLaw (m : MethodId) (p0_ : Int32) (p1_ : Int32) (p2_ : Int32) (p3_ : Int32) : entryFrame m #[(.int p0_), (.int p1_), (.int p2_), (.int p3_)] maxLocals = mkF m 0 #[.val (.int p0_), .val (.int p1_), .val (.int p2_), .val (.int p3_), .unset, .unset, .unset, .unset, .unset, .unset] [] := by first | (simp [entryFrame, mkF, argsToLocals, Value.category, maxLocals]; done) | rfl
def QLaw (Z : State) (p0_ : Int32) (p1_ : Int32) (p2_ : Int32) (p3_ : Int32) (w_COMPACT_STRINGS : Int32) (w_LONG : Addr) (w_FLOAT : Addr) (w_DOUBLE : Addr) (w_REFERENCE : Addr) (w_INT : Addr) (h0 : Heap) (n0 : Nat) (v : Option Value) (h : Heap) (L : List Loc) : Prop := v = some (.int (1 : Int32)) ∧ Fr n0 L
set_option maxRecDepth 65536 in
set_option maxHeartbeats 40000000 in
theorem rmLaw (l : Launch) (Z : State) (a0 : Array Value) (hw : ∀ d ∈ tables_1, d.before a0 Z = true) (ws : List Jvm.Cond) (p0_ : Int32) (p1_ : Int32) (p2_ : Int32) (p3_ : Int32) (w_COMPACT_STRINGS : Int32) (w_LONG : Addr) (w_FLOAT : Addr) (w_DOUBLE : Addr) (w_REFERENCE : Addr) (w_INT : Addr) (h0 : Heap) (n0 : Nat) (O0 : Old Z n0 h0) (hz_0 : ¬ (w_COMPACT_STRINGS = (0 : Int32))) (P1 : Sta Z Z.heap "com/example/stackweave/stackweave/classfile/ValueKind" "INT" "Lcom/example/stackweave/stackweave/classfile/ValueKind;" (.ref w_INT)) (P2 : Exa Z Z.heap w_INT "com/example/stackweave/stackweave/classfile/ValueKind") (P3 : Sta Z Z.heap "com/example/stackweave/stackweave/classfile/ValueKind" "REFERENCE" "Lcom/example/stackweave/stackweave/classfile/ValueKind;" (.ref w_REFERENCE)) (P4 : Exa Z Z.heap w_REFERENCE "com/example/stackweave/stackweave/classfile/ValueKind") (P5 : Sta Z Z.heap "com/example/stackweave/stackweave/classfile/ValueKind" "DOUBLE" "Lcom/example/stackweave/stackweave/classfile/ValueKind;" (.ref w_DOUBLE)) (P6 : Exa Z Z.heap w_DOUBLE "com/example/stackweave/stackweave/classfile/ValueKind") (P7 : Sta Z Z.heap "com/example/stackweave/stackweave/classfile/ValueKind" "FLOAT" "Lcom/example/stackweave/stackweave/classfile/ValueKind;" (.ref w_FLOAT)) (P8 : Exa Z Z.heap w_FLOAT "com/example/stackweave/stackweave/classfile/ValueKind") (P9 : Sta Z Z.heap "com/example/stackweave/stackweave/classfile/ValueKind" "LONG" "Lcom/example/stackweave/stackweave/classfile/ValueKind;" (.ref w_LONG)) (P10 : Exa Z Z.heap w_LONG "com/example/stackweave/stackweave/classfile/ValueKind") (P11 : Sta Z Z.heap "java/lang/String" "COMPACT_STRINGS" "Z" (.int w_COMPACT_STRINGS)) (P12 : Fld Z Z.heap w_INT "java/lang/Enum" "ordinal" "I" (.int (0 : Int32))) (P13 : Fld Z Z.heap w_REFERENCE "java/lang/Enum" "ordinal" "I" (.int (4 : Int32))) (P14 : Fld Z Z.heap w_DOUBLE "java/lang/Enum" "ordinal" "I" (.int (3 : Int32))) (P15 : Fld Z Z.heap w_FLOAT "java/lang/Enum" "ordinal" "I" (.int (2 : Int32))) (P16 : Fld Z Z.heap w_LONG "java/lang/Enum" "ordinal" "I" (.int (1 : Int32))) :
    MetFree l x (head1 (Jvm.Cond.code x code maxLocals ret :: ws) room_1) (fun a U => a = #[(.int p0_), (.int p1_), (.int p2_), (.int p3_)] ∧ Z.Warmed39 U.vm ∧ U.heap = h0) (fun _ _ _ _ _ => True) (fun _ U o U' => ∃ v L, o = .returned v ∧ QLaw Z p0_ p1_ p2_ p3_ w_COMPACT_STRINGS w_LONG w_FLOAT w_DOUBLE w_REFERENCE w_INT h0 n0 v U'.heap L ∧ FrameEnd U o U' L room_1.cells room_1.slots) := by
  refine MetFree.of_bodySF (plainFor_of_name pn_4) hisR ?_
  intro p e s m args below meth c s₁ Bd hml0 hP hK
  obtain ⟨rfl, hZ, hh⟩ := hP
  have hx := Bd.exec
  have hby := Bd.bytes
  have hml : c.maxLocals = 10 := hml0
  have hown : s.vm.findClass "com/example/stackweave/stackweave/classfile/VerificationTypeIsUninitializedPinLaw" = some m.cls := findClass_of_methodNamed Bd.named
  have hnm := (name_of_methodNamed Bd.named Bd.method).1
  have X0 : Stand p l e room_1 s m #[(.int p0_), (.int p1_), (.int p2_), (.int p3_)] below meth c s₁ [] 0 0 := Stand.of_body Bd
  have e0 : s₁.heap = h0 := by rw [← hh, Bd.state]; rfl
  have N0 := Fr.nil n0
  have pre0 : ∀ t, Steps p.tables e below (s₁.setTop (mkF m 0 #[.val (.int p0_), .val (.int p1_), .val (.int p2_), .val (.int p3_), .unset, .unset, .unset, .unset, .unset, .unset] [])) t → Steps p.tables e below (s₁.setTop (entryFrame m #[(.int p0_), (.int p1_), (.int p2_), (.int p3_)] maxLocals)) t := fun t k => castTop (efLaw m p0_ p1_ p2_ p3_) k
  have K0 : Keep h0 h0 [] := Keep.refl _ _
  have pre1 : ∀ t, Steps p.tables e below (s₁.setTop (mkF m 3 #[.val (.int p0_), .val (.int p1_), .val (.int p2_), .val (.int p3_), .unset, .unset, .unset, .unset, .unset, .unset] [(.int (p3_ &&& (1 : Int32)))])) t → Steps p.tables e below (s₁.setTop (entryFrame m #[(.int p0_), (.int p1_), (.int p2_), (.int p3_)] maxLocals)) t := by
    intro t kt
    refine pre0 t ?_
    show Steps p.tables e below (s₁.setTop (mkF m 0 #[.val (.int p0_), .val (.int p1_), .val (.int p2_), .val (.int p3_), .unset, .unset, .unset, .unset, .unset, .unset] [])) _
    refine XS.iloadN X0.here hx rfl (hb hby at_0) rfl ?_
    show Steps p.tables e below (s₁.setTop (mkF m 1 #[.val (.int p0_), .val (.int p1_), .val (.int p2_), .val (.int p3_), .unset, .unset, .unset, .unset, .unset, .unset] [(.int p3_)])) _
    refine XS.iconst X0.here hx rfl (hb hby at_1) ?_
    show Steps p.tables e below (s₁.setTop (mkF m 2 #[.val (.int p0_), .val (.int p1_), .val (.int p2_), .val (.int p3_), .unset, .unset, .unset, .unset, .unset, .unset] [(.int (1 : Int32)), (.int p3_)])) _
    refine XS.iand X0.here hx rfl (hb hby at_2) rfl ?_
    exact kt
  by_cases hc2 : (p3_ &&& (1 : Int32)) = (0 : Int32)
  · obtain ⟨T3, h3, k3, X3, e3, E3, A3, Z3, st3⟩ := newPE X0 hx hZ (hw _ (List.mem_of_getElem? (i := 1) rfl)) e0 (g := (mkF m 20 #[.val (.int p0_), .val (.int p1_), .val (.int p2_), .val (.int p3_), .val (.int p0_), .unset, .unset, .unset, .unset, .unset] [(.int (1 : Int32))])) rfl (hb hby at_20) rfl (by decide) (cap := 1) (by decide) (by decide) (by decide) (by decide) (ad := "[C") (by decide)
    obtain ⟨b3, g3⟩ : ∃ z, z = h0.size := ⟨_, rfl⟩
    rw [← g3] at A3 Z3 st3
    have ge4 : n0 ≤ b3 := Nat.le_trans (Nat.le_trans (Nat.le_of_eq O0.1.symm) O0.2.1) (Nat.le_of_eq g3.symm)
    have sz5 : h0.size ≤ b3 := Nat.le_trans K0.1 (Nat.le_of_eq g3.symm)
    have f6 : Arv Z h3 b3 k3 .char (1 : Int32) [(.int (0 : Int32))] (.int (0 : Int32)) := (Arv.new A3 (by decide)).pad (pad_rep [] (.int (0 : Int32)) 1)
    obtain ⟨c7, r7, q7, s7, z7, y7, G7⟩ := id f6
    have hin7 : ¬ ((0 : Int32) < 0 ∨ c7.slots.size ≤ ((0 : Int32)).toNatClampNeg) := inb_of s7 ⟨by decide, by decide⟩
    obtain ⟨T7, h7, X7, e7, W7, st7⟩ := stC X3 hx hZ e3 r7 (j := (0 : Int32)) hin7 (g := (mkF m 33 #[.val (.int p0_), .val (.int p1_), .val (.int p2_), .val (.int p3_), .val (.int p0_), .val (.ref b3), .unset, .unset, .unset, .unset] [(.int (p2_ &&& (255 : Int32))), (.int (0 : Int32)), (.ref b3)])) rfl rfl (hb hby at_33)
    have N8 := Fr.snoc X7 N0 ge4
    have f9 : Arv Z h7 b3 k3 .char (1 : Int32) [(.int ((p2_ &&& (255 : Int32)).toUInt32.toUInt16.toUInt32.toInt32))] (.int (0 : Int32)) := Arv.set r7 q7 s7 z7 y7 G7 (fits_nar_char _) W7 0 rfl (Nat.le_of_ble_eq_true rfl)
    have f10 : Arv Z h7 b3 k3 .char (1 : Int32) [(.int (p2_ &&& (255 : Int32)))] (.int (0 : Int32)) := by have q := f9; rw [i2c_mask] at q; exact q
    obtain ⟨T11, h11, X11, e11, E11, A11, D11, -, st11⟩ := newO X7 hx hZ hown (hw _ (List.mem_of_getElem? (i := 2) rfl)) (hw _ (List.mem_of_getElem? (i := 3) rfl)) (hw _ (List.mem_of_getElem? (i := 4) rfl)) e7 (g := (mkF m 34 #[.val (.int p0_), .val (.int p1_), .val (.int p2_), .val (.int p3_), .val (.int p0_), .val (.ref b3), .unset, .unset, .unset, .unset] [])) rfl (hb hby at_34) (by decide) (by decide)
    obtain ⟨b11, g11⟩ : ∃ z, z = h7.size := ⟨_, rfl⟩
    rw [← g11] at A11 D11 st11
    have f12 : Old Z n0 h3 := O0.ext E3
    have f13 : Old Z n0 h7 := f12.wr W7 ge4
    have ge14 : n0 ≤ b11 := Nat.le_trans (Nat.le_trans (Nat.le_of_eq f13.1.symm) f13.2.1) (Nat.le_of_eq g11.symm)
    have f15 : Keep h0 h3 [] := K0.ext E3
    have f16 : Keep h0 h7 [] := f15.wr W7 (Or.inr sz5)
    have sz17 : h0.size ≤ b11 := Nat.le_trans f16.1 (Nat.le_of_eq g11.symm)
    have f18 : Fld Z h11 b11 "java/lang/String" "coder" "B" (.int (0 : Int32)) := D11 (Or.inr (hw _ (List.mem_of_getElem? (i := 28) rfl))) (ty := .byte) (by decide)
    have f19 : Fld Z h11 b11 "java/lang/String" "value" "[B" .null := D11 (Or.inr (hw _ (List.mem_of_getElem? (i := 30) rfl))) (ty := (.array .byte)) (by decide)
    have hn20 : ¬ ((255 : Int32) < (p2_ &&& (255 : Int32))) := own_le255 _
    have f22 : Arv Z h11 b3 k3 .char (1 : Int32) [(.int (p2_ &&& (255 : Int32)))] (.int (0 : Int32)) := f10.ext E11
    have f23 : Exa Z h7 b3 "[C" := Z3.wr W7
    have f24 : Exa Z h11 b3 "[C" := f23.ext E11
    have f25 : Old Z n0 h11 := f13.ext E11
    obtain ⟨_, _, ⟨T21, L21, k21, n21⟩, -, X21, ⟨Lc21, hQ21, l21, y21, z21⟩, st21⟩ := X11.specialBack hx (y := (⟨"java/lang/String", "<init>", "([C)V"⟩ : MethodName)) rfl hown (mvT hZ (hw _ (List.mem_of_getElem? (i := 5) rfl))) (mvT hZ (hw _ (List.mem_of_getElem? (i := 6) rfl))) (mvT hZ (hw _ (List.mem_of_getElem? (i := 7) rfl))) (by decide) (backOf (W := 1) (rminit1 l Z a0 hw [] b11 b3 k3 (p2_ &&& (255 : Int32)) w_COMPACT_STRINGS h11 n0 f25 hn20 A11 f18 f19 f22 f24 hz_0 P11 ge14) hZ (hw _ (List.mem_of_getElem? (i := 7) rfl)) (hw _ (List.mem_of_getElem? (i := 4) rfl)) (by decide) (by decide)) (g := (mkF m 40 #[.val (.int p0_), .val (.int p1_), .val (.int p2_), .val (.int p3_), .val (.int p0_), .val (.ref b3), .unset, .unset, .unset, .unset] [(.ref b3), (.ref b11), (.ref b11)])) rfl (by rw [hml]; rfl) (Steps.refl _) (a := b11) (argsL := [(.ref b3)]) (rest := [(.ref b11)]) (lenOf pd_4 rfl) rfl (by show 2 * 0 + _ ≤ _; exact Nat.le_of_eq rfl) (hb hby at_40) (fun _ _ => ⟨rfl, e11, (by decide : 2 + 1 ≤ _), (by decide : 5 + 1 ≤ _)⟩)
    dsimp only [Pt.U, Pt.locs, Pt.cells, Pt.slots] at X21 l21 y21 z21 st21 hQ21
    subst l21 y21 z21
    obtain ⟨h21, e21⟩ : ∃ z, T21.heap = z := ⟨_, rfl⟩
    rw [e21] at hQ21
    obtain ⟨k1_3_2_21, nnnb1_3_2_21, rfl, N21q, K21, sznnnb1_3_2_21, g21_0, g21_1, g21_2, g21_3, g21_4⟩ := hQ21
    have N26 := Fr.app N8 N21q
    have ge27 : n0 ≤ nnnb1_3_2_21 := Nat.le_trans (Nat.le_trans (Nat.le_of_eq f25.1.symm) f25.2.1) sznnnb1_3_2_21
    have f28 : Keep h0 h11 [] := f16.ext E11
    have sz29 : h0.size ≤ nnnb1_3_2_21 := Nat.le_trans f28.1 sznnnb1_3_2_21
    obtain ⟨T30, h30, X30, e30, E30, A30, D30, -, st30⟩ := newO X21 hx hZ hown (hw _ (List.mem_of_getElem? (i := 31) rfl)) (hw _ (List.mem_of_getElem? (i := 32) rfl)) (hw _ (List.mem_of_getElem? (i := 33) rfl)) e21 (g := (mkF m 45 #[.val (.int p0_), .val (.int p1_), .val (.int p2_), .val (.int p3_), .val (.int p0_), .val (.ref b3), .val (.ref b11), .unset, .unset, .unset] [])) rfl (hb hby at_45) (by decide) (by decide)
    obtain ⟨b30, g30⟩ : ∃ z, z = h21.size := ⟨_, rfl⟩
    rw [← g30] at A30 D30 st30
    have f31 : Old Z n0 h21 := f25.keep K21 (allS (ge14) all0)
    have ge32 : n0 ≤ b30 := Nat.le_trans (Nat.le_trans (Nat.le_of_eq f31.1.symm) f31.2.1) (Nat.le_of_eq g30.symm)
    have f33 : Keep h0 h21 [] := f28.trans K21 (allS (Or.inr sz17) all0)
    have sz34 : h0.size ≤ b30 := Nat.le_trans f33.1 (Nat.le_of_eq g30.symm)
    have f35 : Fld Z h30 b30 "com/example/stackweave/stackweave/classfile/VerificationType" "tag" "I" (.int (0 : Int32)) := D30 (Or.inr (hw _ (List.mem_of_getElem? (i := 44) rfl))) (ty := .int) (by decide)
    have f36 : Fld Z h30 b30 "com/example/stackweave/stackweave/classfile/VerificationType" "className" "Ljava/lang/String;" .null := D30 (Or.inr (hw _ (List.mem_of_getElem? (i := 46) rfl))) (ty := (.object "java/lang/String")) (by decide)
    have f37 : Fld Z h30 b30 "com/example/stackweave/stackweave/classfile/VerificationType" "newOffset" "I" (.int (0 : Int32)) := D30 (Or.inr (hw _ (List.mem_of_getElem? (i := 48) rfl))) (ty := .int) (by decide)
    have f39 : Exa Z h30 b11 "java/lang/String" := g21_0.ext E30
    have f40 : Fld Z h30 b11 "java/lang/String" "coder" "B" (.int (0 : Int32)) := g21_1.ext E30
    have f41 : Fld Z h30 b11 "java/lang/String" "value" "[B" (.ref nnnb1_3_2_21) := g21_2.ext E30
    have f42 : Arv Z h30 nnnb1_3_2_21 k1_3_2_21 .byte (1 : Int32) [(.int ((p2_ &&& (255 : Int32)).toInt8.toInt32))] (.int (0 : Int32)) := g21_3.ext E30
    have f43 : Exa Z h30 nnnb1_3_2_21 "[B" := g21_4.ext E30
    have f44 : Old Z n0 h30 := f31.ext E30
    obtain ⟨_, _, ⟨T38, L38, k38, n38⟩, -, X38, ⟨Lc38, hQ38, l38, y38, z38⟩, st38⟩ := X30.specialBack hx (y := (⟨"com/example/stackweave/stackweave/classfile/VerificationType", "<init>", "(ILjava/lang/String;I)V"⟩ : MethodName)) rfl hown (mvT hZ (hw _ (List.mem_of_getElem? (i := 34) rfl))) (mvT hZ (hw _ (List.mem_of_getElem? (i := 35) rfl))) (mvT hZ (hw _ (List.mem_of_getElem? (i := 36) rfl))) (by decide) (backOf (W := 1) (rminit7 l Z a0 hw [] b30 p0_ b11 p1_ nnnb1_3_2_21 k1_3_2_21 ((p2_ &&& (255 : Int32)).toInt8.toInt32) h30 n0 f44 A30 f35 f36 f37 f39 f40 f41 f42 f43 ge32) hZ (hw _ (List.mem_of_getElem? (i := 36) rfl)) (hw _ (List.mem_of_getElem? (i := 33) rfl)) (by decide) (by decide)) (g := (mkF m 54 #[.val (.int p0_), .val (.int p1_), .val (.int p2_), .val (.int p3_), .val (.int p0_), .val (.ref b3), .val (.ref b11), .unset, .unset, .unset] [(.int p1_), (.ref b11), (.int p0_), (.ref b30), (.ref b30)])) rfl (by rw [hml]; rfl) (Steps.refl _) (a := b30) (argsL := [(.int p0_), (.ref b11), (.int p1_)]) (rest := [(.ref b30)]) (lenOf pd_6 rfl) rfl (by show 2 * 0 + _ ≤ _; exact Nat.le_of_eq rfl) (hb hby at_54) (fun _ _ => ⟨rfl, e30, (by decide : 4 + 0 ≤ _), (by decide : 9 + 0 ≤ _)⟩)
    dsimp only [Pt.U, Pt.locs, Pt.cells, Pt.slots] at X38 l38 y38 z38 st38 hQ38
    subst l38 y38 z38
    obtain ⟨h38, e38⟩ : ∃ z, T38.heap = z := ⟨_, rfl⟩
    rw [e38] at hQ38
    obtain ⟨rfl, N38q, K38, g38_0, g38_1, g38_2, g38_3⟩ := hQ38
    have N45 := Fr.app N26 N38q
    have f47 : Exa Z h38 b11 "java/lang/String" := f39.keep K38
    have ne49 : b11 ≠ b30 := Nat.ne_of_lt (Nat.lt_of_lt_of_le g21_0.lt (Nat.le_of_eq g30.symm))
    have f48 : Fld Z h38 b11 "java/lang/String" "coder" "B" (.int (0 : Int32)) := f40.keep K38 (ninS ne49 nin0)
    have f50 : Fld Z h38 b11 "java/lang/String" "value" "[B" (.ref nnnb1_3_2_21) := f41.keep K38 (ninS ne49 nin0)
    have ne52 : nnnb1_3_2_21 ≠ b30 := Nat.ne_of_lt (Nat.lt_of_lt_of_le g21_3.lt (Nat.le_of_eq g30.symm))
    have f51 : Arv Z h38 nnnb1_3_2_21 k1_3_2_21 .byte (1 : Int32) [(.int ((p2_ &&& (255 : Int32)).toInt8.toInt32))] (.int (0 : Int32)) := f42.keep K38 (ninS ne52 nin0)
    have f53 : Exa Z h38 nnnb1_3_2_21 "[B" := f43.keep K38
    have f54 : Old Z n0 h38 := f44.keep K38 (allS (ge32) all0)
    obtain ⟨cq46, kq46, q46a, q46b, q46c⟩ := isOf hZ e38 g38_0
    obtain ⟨_, _, ⟨T46, L46, k46, n46⟩, -, X46, ⟨Lc46, hQ46, l46, y46, z46⟩, st46⟩ := X38.virtualBack hx (y := (⟨"com/example/stackweave/stackweave/classfile/VerificationType", "isUninitialized", "()Z"⟩ : MethodName)) (z := (⟨"com/example/stackweave/stackweave/classfile/VerificationType", "isUninitialized", "()Z"⟩ : MethodName)) hown (mvT hZ (hw _ (List.mem_of_getElem? (i := 49) rfl))) (mvT hZ (hw _ (List.mem_of_getElem? (i := 50) rfl))) (notFace_of_selects (args := #[]) (mvT hZ (hw _ (List.mem_of_getElem? (i := 52) rfl)))) (mvT hZ (hw _ (List.mem_of_getElem? (i := 52) rfl))) (mvT hZ (hw _ (List.mem_of_getElem? (i := 51) rfl))) (by decide) (backOf (W := 0) (rmisUninitialized9 l Z a0 hw [] b30 p0_ b11 p1_ nnnb1_3_2_21 k1_3_2_21 ((p2_ &&& (255 : Int32)).toInt8.toInt32) h38 n0 f54 g38_0 g38_1 g38_2 g38_3 f47 f48 f50 f51 f53) hZ (hw _ (List.mem_of_getElem? (i := 53) rfl)) (hw _ (List.mem_of_getElem? (i := 33) rfl)) (by decide) (by decide)) q46a q46c (g := (mkF m 61 #[.val (.int p0_), .val (.int p1_), .val (.int p2_), .val (.int p3_), .val (.int p0_), .val (.ref b3), .val (.ref b11), .val (.ref b30), .unset, .unset] [(.ref b30)])) rfl (by rw [hml]; rfl) (Steps.refl _) (argsL := []) (rest := []) (lenOf pd_7 rfl) rfl (by show 2 * 0 + _ ≤ _; exact Nat.le_of_eq rfl) (hb hby at_61) (fun _ _ => ⟨rfl, e38, (by decide : 4 + 0 ≤ _), (by decide : 9 + 0 ≤ _)⟩)
    dsimp only [Pt.U, Pt.locs, Pt.cells, Pt.slots] at X46 l46 y46 z46 st46 hQ46
    subst l46 y46 z46
    obtain ⟨h46, e46⟩ : ∃ z, T46.heap = z := ⟨_, rfl⟩
    rw [e46] at hQ46
    obtain ⟨rr46, rfl, hs46, N46q, hh46⟩ := hQ46
    have N55 := Fr.app N45 N46q
    have e46' : T46.heap = h38 := e46.trans hh46
    rcases hs46 with ⟨rfl, hq46_0_0⟩ | ⟨rfl, hq46_1_0, hq46_1_1⟩ | ⟨rfl, hq46_2_0, hq46_2_1⟩
    · obtain ⟨cq56, kq56, q56a, q56b, q56c⟩ := isOf hZ e46' g38_0
      obtain ⟨_, _, ⟨T56, L56, k56, n56⟩, -, X56, ⟨Lc56, hQ56, l56, y56, z56⟩, st56⟩ := X46.virtualBack hx (y := (⟨"com/example/stackweave/stackweave/classfile/VerificationType", "kind", "()Lcom/example/stackweave/stackweave/classfile/ValueKind;"⟩ : MethodName)) (z := (⟨"com/example/stackweave/stackweave/classfile/VerificationType", "kind", "()Lcom/example/stackweave/stackweave/classfile/ValueKind;"⟩ : MethodName)) hown (mvT hZ (hw _ (List.mem_of_getElem? (i := 54) rfl))) (mvT hZ (hw _ (List.mem_of_getElem? (i := 55) rfl))) (notFace_of_selects (args := #[]) (mvT hZ (hw _ (List.mem_of_getElem? (i := 57) rfl)))) (mvT hZ (hw _ (List.mem_of_getElem? (i := 57) rfl))) (mvT hZ (hw _ (List.mem_of_getElem? (i := 56) rfl))) (by decide) (backOf (W := 0) (rmkind10 l Z a0 hw [] b30 p0_ b11 p1_ nnnb1_3_2_21 k1_3_2_21 ((p2_ &&& (255 : Int32)).toInt8.toInt32) w_REFERENCE h38 n0 f54 hq46_0_0 g38_0 g38_1 g38_2 g38_3 f47 f48 f50 f51 f53 P4 P13 P3) hZ (hw _ (List.mem_of_getElem? (i := 58) rfl)) (hw _ (List.mem_of_getElem? (i := 33) rfl)) (by decide) (by decide)) q56a q56c (g := (mkF m 81 #[.val (.int p0_), .val (.int p1_), .val (.int p2_), .val (.int p3_), .val (.int p0_), .val (.ref b3), .val (.ref b11), .val (.ref b30), .val (.int (1 : Int32)), .unset] [(.ref b30)])) rfl (by rw [hml]; rfl) (Steps.refl _) (argsL := []) (rest := []) (lenOf pd_8 rfl) rfl (by show 2 * 0 + _ ≤ _; exact Nat.le_of_eq rfl) (hb hby at_81) (fun _ _ => ⟨rfl, e46', (by decide : 4 + 0 ≤ _), (by decide : 9 + 0 ≤ _)⟩)
      dsimp only [Pt.U, Pt.locs, Pt.cells, Pt.slots] at X56 l56 y56 z56 st56 hQ56
      subst l56 y56 z56
      obtain ⟨h56, e56⟩ : ∃ z, T56.heap = z := ⟨_, rfl⟩
      rw [e56] at hQ56
      obtain ⟨rfl, N56q, hh56⟩ := hQ56
      have N57 := Fr.app N55 N56q
      have e56' : T56.heap = h38 := e56.trans hh56
      obtain ⟨T58, X58, e58, st58⟩ := getS2 X56 hx hZ hown (host := "") (Or.inl (hw _ (List.mem_of_getElem? (i := 62) rfl))) Via.refl e56' (P3.ext f54.2) (g := (mkF m 84 #[.val (.int p0_), .val (.int p1_), .val (.int p2_), .val (.int p3_), .val (.int p0_), .val (.ref b3), .val (.ref b11), .val (.ref b30), .val (.int (1 : Int32)), .unset] [(.ref w_REFERENCE)])) rfl (hb hby at_84)
      obtain ⟨cq59, kq59, q59a, q59b, q59c⟩ := isOf hZ e58 g38_0
      obtain ⟨_, _, ⟨T59, L59, k59, n59⟩, -, X59, ⟨Lc59, hQ59, l59, y59, z59⟩, st59⟩ := X58.virtualBack hx (y := (⟨"com/example/stackweave/stackweave/classfile/VerificationType", "isReference", "()Z"⟩ : MethodName)) (z := (⟨"com/example/stackweave/stackweave/classfile/VerificationType", "isReference", "()Z"⟩ : MethodName)) hown (mvT hZ (hw _ (List.mem_of_getElem? (i := 69) rfl))) (mvT hZ (hw _ (List.mem_of_getElem? (i := 70) rfl))) (notFace_of_selects (args := #[]) (mvT hZ (hw _ (List.mem_of_getElem? (i := 72) rfl)))) (mvT hZ (hw _ (List.mem_of_getElem? (i := 72) rfl))) (mvT hZ (hw _ (List.mem_of_getElem? (i := 71) rfl))) (by decide) (backOf (W := 0) (rmisReference11 l Z a0 hw [] b30 p0_ b11 p1_ nnnb1_3_2_21 k1_3_2_21 ((p2_ &&& (255 : Int32)).toInt8.toInt32) h38 n0 f54 hq46_0_0 g38_0 g38_1 g38_2 g38_3 f47 f48 f50 f51 f53) hZ (hw _ (List.mem_of_getElem? (i := 73) rfl)) (hw _ (List.mem_of_getElem? (i := 33) rfl)) (by decide) (by decide)) q59a q59c (g := (mkF m 92 #[.val (.int p0_), .val (.int p1_), .val (.int p2_), .val (.int p3_), .val (.int p0_), .val (.ref b3), .val (.ref b11), .val (.ref b30), .val (.int (1 : Int32)), .unset] [(.ref b30)])) rfl (by rw [hml]; rfl) (Steps.refl _) (argsL := []) (rest := []) (lenOf pd_7 rfl) rfl (by show 2 * 0 + _ ≤ _; exact Nat.le_of_eq rfl) (hb hby at_92) (fun _ _ => ⟨rfl, e58, (by decide : 4 + 0 ≤ _), (by decide : 9 + 0 ≤ _)⟩)
      dsimp only [Pt.U, Pt.locs, Pt.cells, Pt.slots] at X59 l59 y59 z59 st59 hQ59
      subst l59 y59 z59
      obtain ⟨h59, e59⟩ : ∃ z, T59.heap = z := ⟨_, rfl⟩
      rw [e59] at hQ59
      obtain ⟨rfl, N59q, hh59⟩ := hQ59
      have N60 := Fr.app N57 N59q
      have e59' : T59.heap = h38 := e59.trans hh59
      have pre61 : ∀ t, Steps p.tables e below (T59.setTop (mkF m 117 #[.val (.int p0_), .val (.int p1_), .val (.int p2_), .val (.int p3_), .val (.int p0_), .val (.ref b3), .val (.ref b11), .val (.ref b30), .val (.int (1 : Int32)), .val (.int (1 : Int32))] [(.int (1 : Int32))])) t → Steps p.tables e below (s₁.setTop (entryFrame m #[(.int p0_), (.int p1_), (.int p2_), (.int p3_)] maxLocals)) t := by
        intro t kt
        refine pre1 t ?_
        show Steps p.tables e below (s₁.setTop (mkF m 3 #[.val (.int p0_), .val (.int p1_), .val (.int p2_), .val (.int p3_), .unset, .unset, .unset, .unset, .unset, .unset] [(.int (p3_ &&& (1 : Int32)))])) _
        refine XS.ifNo X0.here hx rfl (hb hby at_3) rfl ((if0 _ _).trans (teq hc2).2) ?_
        show Steps p.tables e below (s₁.setTop (mkF m 6 #[.val (.int p0_), .val (.int p1_), .val (.int p2_), .val (.int p3_), .unset, .unset, .unset, .unset, .unset, .unset] [])) _
        refine XS.iloadN X0.here hx rfl (hb hby at_6) rfl ?_
        show Steps p.tables e below (s₁.setTop (mkF m 7 #[.val (.int p0_), .val (.int p1_), .val (.int p2_), .val (.int p3_), .unset, .unset, .unset, .unset, .unset, .unset] [(.int p0_)])) _
        refine XS.goto X0.here hx rfl (pc0 := 7) (pc' := 17) rfl (hb hby at_7) (by decide) (by decide) ?_
        show Steps p.tables e below (s₁.setTop (mkF m 17 #[.val (.int p0_), .val (.int p1_), .val (.int p2_), .val (.int p3_), .unset, .unset, .unset, .unset, .unset, .unset] [(.int p0_)])) _
        refine XS.istore X0.here hx rfl (hb hby at_17) rfl (l' := #[.val (.int p0_), .val (.int p1_), .val (.int p2_), .val (.int p3_), .val (.int p0_), .unset, .unset, .unset, .unset, .unset]) rfl ?_
        show Steps p.tables e below (s₁.setTop (mkF m 19 #[.val (.int p0_), .val (.int p1_), .val (.int p2_), .val (.int p3_), .val (.int p0_), .unset, .unset, .unset, .unset, .unset] [])) _
        refine XS.iconst X0.here hx rfl (hb hby at_19) ?_
        show Steps p.tables e below (s₁.setTop (mkF m 20 #[.val (.int p0_), .val (.int p1_), .val (.int p2_), .val (.int p3_), .val (.int p0_), .unset, .unset, .unset, .unset, .unset] [(.int (1 : Int32))])) _
        refine st3 _ ?_
        show Steps p.tables e below (T3.setTop (mkF m 22 #[.val (.int p0_), .val (.int p1_), .val (.int p2_), .val (.int p3_), .val (.int p0_), .unset, .unset, .unset, .unset, .unset] [(.ref b3)])) _
        refine XS.astore X3.here hx rfl (hb hby at_22) rfl rfl (l' := #[.val (.int p0_), .val (.int p1_), .val (.int p2_), .val (.int p3_), .val (.int p0_), .val (.ref b3), .unset, .unset, .unset, .unset]) rfl ?_
        show Steps p.tables e below (T3.setTop (mkF m 24 #[.val (.int p0_), .val (.int p1_), .val (.int p2_), .val (.int p3_), .val (.int p0_), .val (.ref b3), .unset, .unset, .unset, .unset] [])) _
        refine XS.aload X3.here hx rfl (hb hby at_24) rfl rfl ?_
        show Steps p.tables e below (T3.setTop (mkF m 26 #[.val (.int p0_), .val (.int p1_), .val (.int p2_), .val (.int p3_), .val (.int p0_), .val (.ref b3), .unset, .unset, .unset, .unset] [(.ref b3)])) _
        refine XS.iconst X3.here hx rfl (hb hby at_26) ?_
        show Steps p.tables e below (T3.setTop (mkF m 27 #[.val (.int p0_), .val (.int p1_), .val (.int p2_), .val (.int p3_), .val (.int p0_), .val (.ref b3), .unset, .unset, .unset, .unset] [(.int (0 : Int32)), (.ref b3)])) _
        refine XS.iloadN X3.here hx rfl (hb hby at_27) rfl ?_
        show Steps p.tables e below (T3.setTop (mkF m 28 #[.val (.int p0_), .val (.int p1_), .val (.int p2_), .val (.int p3_), .val (.int p0_), .val (.ref b3), .unset, .unset, .unset, .unset] [(.int p2_), (.int (0 : Int32)), (.ref b3)])) _
        refine XS.sipush X3.here hx rfl (hb hby at_28) ?_
        show Steps p.tables e below (T3.setTop (mkF m 31 #[.val (.int p0_), .val (.int p1_), .val (.int p2_), .val (.int p3_), .val (.int p0_), .val (.ref b3), .unset, .unset, .unset, .unset] [(.int (255 : Int32)), (.int p2_), (.int (0 : Int32)), (.ref b3)])) _
        refine XS.iand X3.here hx rfl (hb hby at_31) rfl ?_
        show Steps p.tables e below (T3.setTop (mkF m 32 #[.val (.int p0_), .val (.int p1_), .val (.int p2_), .val (.int p3_), .val (.int p0_), .val (.ref b3), .unset, .unset, .unset, .unset] [(.int (p2_ &&& (255 : Int32))), (.int (0 : Int32)), (.ref b3)])) _
        refine XS.i2c X3.here hx rfl (hb hby at_32) rfl ?_
        show Steps p.tables e below (T3.setTop (mkF m 33 #[.val (.int p0_), .val (.int p1_), .val (.int p2_), .val (.int p3_), .val (.int p0_), .val (.ref b3), .unset, .unset, .unset, .unset] [(.int ((p2_ &&& (255 : Int32)).toUInt32.toUInt16.toUInt32.toInt32)), (.int (0 : Int32)), (.ref b3)])) _
        rw [i2c_mask]
        show Steps p.tables e below (T3.setTop (mkF m 33 #[.val (.int p0_), .val (.int p1_), .val (.int p2_), .val (.int p3_), .val (.int p0_), .val (.ref b3), .unset, .unset, .unset, .unset] [(.int (p2_ &&& (255 : Int32))), (.int (0 : Int32)), (.ref b3)])) _
        refine st7 _ ?_
        show Steps p.tables e below (T7.setTop (mkF m 34 #[.val (.int p0_), .val (.int p1_), .val (.int p2_), .val (.int p3_), .val (.int p0_), .val (.ref b3), .unset, .unset, .unset, .unset] [])) _
        refine st11 _ ?_
        show Steps p.tables e below (T11.setTop (mkF m 37 #[.val (.int p0_), .val (.int p1_), .val (.int p2_), .val (.int p3_), .val (.int p0_), .val (.ref b3), .unset, .unset, .unset, .unset] [(.ref b11)])) _
        refine XS.dup X11.here hx rfl (hb hby at_37) rfl rfl ?_
        show Steps p.tables e below (T11.setTop (mkF m 38 #[.val (.int p0_), .val (.int p1_), .val (.int p2_), .val (.int p3_), .val (.int p0_), .val (.ref b3), .unset, .unset, .unset, .unset] [(.ref b11), (.ref b11)])) _
        refine XS.aload X11.here hx rfl (hb hby at_38) rfl rfl ?_
        show Steps p.tables e below (T11.setTop (mkF m 40 #[.val (.int p0_), .val (.int p1_), .val (.int p2_), .val (.int p3_), .val (.int p0_), .val (.ref b3), .unset, .unset, .unset, .unset] [(.ref b3), (.ref b11), (.ref b11)])) _
        refine st21.trans ?_
        show Steps p.tables e below (T21.setTop (mkF m 43 #[.val (.int p0_), .val (.int p1_), .val (.int p2_), .val (.int p3_), .val (.int p0_), .val (.ref b3), .unset, .unset, .unset, .unset] [(.ref b11)])) _
        refine XS.astore X21.here hx rfl (hb hby at_43) rfl rfl (l' := #[.val (.int p0_), .val (.int p1_), .val (.int p2_), .val (.int p3_), .val (.int p0_), .val (.ref b3), .val (.ref b11), .unset, .unset, .unset]) rfl ?_
        show Steps p.tables e below (T21.setTop (mkF m 45 #[.val (.int p0_), .val (.int p1_), .val (.int p2_), .val (.int p3_), .val (.int p0_), .val (.ref b3), .val (.ref b11), .unset, .unset, .unset] [])) _
        refine st30 _ ?_
        show Steps p.tables e below (T30.setTop (mkF m 48 #[.val (.int p0_), .val (.int p1_), .val (.int p2_), .val (.int p3_), .val (.int p0_), .val (.ref b3), .val (.ref b11), .unset, .unset, .unset] [(.ref b30)])) _
        refine XS.dup X30.here hx rfl (hb hby at_48) rfl rfl ?_
        show Steps p.tables e below (T30.setTop (mkF m 49 #[.val (.int p0_), .val (.int p1_), .val (.int p2_), .val (.int p3_), .val (.int p0_), .val (.ref b3), .val (.ref b11), .unset, .unset, .unset] [(.ref b30), (.ref b30)])) _
        refine XS.iload X30.here hx rfl (hb hby at_49) rfl ?_
        show Steps p.tables e below (T30.setTop (mkF m 51 #[.val (.int p0_), .val (.int p1_), .val (.int p2_), .val (.int p3_), .val (.int p0_), .val (.ref b3), .val (.ref b11), .unset, .unset, .unset] [(.int p0_), (.ref b30), (.ref b30)])) _
        refine XS.aload X30.here hx rfl (hb hby at_51) rfl rfl ?_
        show Steps p.tables e below (T30.setTop (mkF m 53 #[.val (.int p0_), .val (.int p1_), .val (.int p2_), .val (.int p3_), .val (.int p0_), .val (.ref b3), .val (.ref b11), .unset, .unset, .unset] [(.ref b11), (.int p0_), (.ref b30), (.ref b30)])) _
        refine XS.iloadN X30.here hx rfl (hb hby at_53) rfl ?_
        show Steps p.tables e below (T30.setTop (mkF m 54 #[.val (.int p0_), .val (.int p1_), .val (.int p2_), .val (.int p3_), .val (.int p0_), .val (.ref b3), .val (.ref b11), .unset, .unset, .unset] [(.int p1_), (.ref b11), (.int p0_), (.ref b30), (.ref b30)])) _
        refine st38.trans ?_
        show Steps p.tables e below (T38.setTop (mkF m 57 #[.val (.int p0_), .val (.int p1_), .val (.int p2_), .val (.int p3_), .val (.int p0_), .val (.ref b3), .val (.ref b11), .unset, .unset, .unset] [(.ref b30)])) _
        refine XS.astore X38.here hx rfl (hb hby at_57) rfl rfl (l' := #[.val (.int p0_), .val (.int p1_), .val (.int p2_), .val (.int p3_), .val (.int p0_), .val (.ref b3), .val (.ref b11), .val (.ref b30), .unset, .unset]) rfl ?_
        show Steps p.tables e below (T38.setTop (mkF m 59 #[.val (.int p0_), .val (.int p1_), .val (.int p2_), .val (.int p3_), .val (.int p0_), .val (.ref b3), .val (.ref b11), .val (.ref b30), .unset, .unset] [])) _
        refine XS.aload X38.here hx rfl (hb hby at_59) rfl rfl ?_
        show Steps p.tables e below (T38.setTop (mkF m 61 #[.val (.int p0_), .val (.int p1_), .val (.int p2_), .val (.int p3_), .val (.int p0_), .val (.ref b3), .val (.ref b11), .val (.ref b30), .unset, .unset] [(.ref b30)])) _
        refine st46.trans ?_
        show Steps p.tables e below (T46.setTop (mkF m 64 #[.val (.int p0_), .val (.int p1_), .val (.int p2_), .val (.int p3_), .val (.int p0_), .val (.ref b3), .val (.ref b11), .val (.ref b30), .unset, .unset] [(.int (1 : Int32))])) _
        refine XS.istore X46.here hx rfl (hb hby at_64) rfl (l' := #[.val (.int p0_), .val (.int p1_), .val (.int p2_), .val (.int p3_), .val (.int p0_), .val (.ref b3), .val (.ref b11), .val (.ref b30), .val (.int (1 : Int32)), .unset]) rfl ?_
        show Steps p.tables e below (T46.setTop (mkF m 66 #[.val (.int p0_), .val (.int p1_), .val (.int p2_), .val (.int p3_), .val (.int p0_), .val (.ref b3), .val (.ref b11), .val (.ref b30), .val (.int (1 : Int32)), .unset] [])) _
        refine XS.iload X46.here hx rfl (hb hby at_66) rfl ?_
        show Steps p.tables e below (T46.setTop (mkF m 68 #[.val (.int p0_), .val (.int p1_), .val (.int p2_), .val (.int p3_), .val (.int p0_), .val (.ref b3), .val (.ref b11), .val (.ref b30), .val (.int (1 : Int32)), .unset] [(.int p0_)])) _
        refine XS.iconst X46.here hx rfl (hb hby at_68) ?_
        show Steps p.tables e below (T46.setTop (mkF m 69 #[.val (.int p0_), .val (.int p1_), .val (.int p2_), .val (.int p3_), .val (.int p0_), .val (.ref b3), .val (.ref b11), .val (.ref b30), .val (.int (1 : Int32)), .unset] [(.int (1 : Int32)), (.int p0_)])) _
        refine XS.icmpNo X46.here hx rfl (hb hby at_69) rfl (flt (by intro hz; have lt_0 : ((1 : Int32)).toInt = 1 := rfl; have lt_1 : ((6 : Int32)).toInt = 6 := rfl; simp only [Int32.lt_iff_toInt_lt, Int64.lt_iff_toInt_lt, ← Int32.toInt_inj, ← Int64.toInt_inj] at hz hq46_0_0; omega)).1 ?_
        show Steps p.tables e below (T46.setTop (mkF m 72 #[.val (.int p0_), .val (.int p1_), .val (.int p2_), .val (.int p3_), .val (.int p0_), .val (.ref b3), .val (.ref b11), .val (.ref b30), .val (.int (1 : Int32)), .unset] [])) _
        refine XS.iload X46.here hx rfl (hb hby at_72) rfl ?_
        show Steps p.tables e below (T46.setTop (mkF m 74 #[.val (.int p0_), .val (.int p1_), .val (.int p2_), .val (.int p3_), .val (.int p0_), .val (.ref b3), .val (.ref b11), .val (.ref b30), .val (.int (1 : Int32)), .unset] [(.int p0_)])) _
        refine XS.bipush X46.here hx rfl (hb hby at_74) ?_
        show Steps p.tables e below (T46.setTop (mkF m 76 #[.val (.int p0_), .val (.int p1_), .val (.int p2_), .val (.int p3_), .val (.int p0_), .val (.ref b3), .val (.ref b11), .val (.ref b30), .val (.int (1 : Int32)), .unset] [(.int (8 : Int32)), (.int p0_)])) _
        refine XS.icmpNo X46.here hx rfl (hb hby at_76) rfl (flt (by intro hz; have lt_0 : ((6 : Int32)).toInt = 6 := rfl; have lt_1 : ((8 : Int32)).toInt = 8 := rfl; simp only [Int32.lt_iff_toInt_lt, Int64.lt_iff_toInt_lt, ← Int32.toInt_inj, ← Int64.toInt_inj] at hz hq46_0_0; omega)).2.2.1 ?_
        show Steps p.tables e below (T46.setTop (mkF m 79 #[.val (.int p0_), .val (.int p1_), .val (.int p2_), .val (.int p3_), .val (.int p0_), .val (.ref b3), .val (.ref b11), .val (.ref b30), .val (.int (1 : Int32)), .unset] [])) _
        refine XS.aload X46.here hx rfl (hb hby at_79) rfl rfl ?_
        show Steps p.tables e below (T46.setTop (mkF m 81 #[.val (.int p0_), .val (.int p1_), .val (.int p2_), .val (.int p3_), .val (.int p0_), .val (.ref b3), .val (.ref b11), .val (.ref b30), .val (.int (1 : Int32)), .unset] [(.ref b30)])) _
        refine st56.trans ?_
        show Steps p.tables e below (T56.setTop (mkF m 84 #[.val (.int p0_), .val (.int p1_), .val (.int p2_), .val (.int p3_), .val (.int p0_), .val (.ref b3), .val (.ref b11), .val (.ref b30), .val (.int (1 : Int32)), .unset] [(.ref w_REFERENCE)])) _
        refine st58 _ ?_
        show Steps p.tables e below (T58.setTop (mkF m 87 #[.val (.int p0_), .val (.int p1_), .val (.int p2_), .val (.int p3_), .val (.int p0_), .val (.ref b3), .val (.ref b11), .val (.ref b30), .val (.int (1 : Int32)), .unset] [(.ref w_REFERENCE), (.ref w_REFERENCE)])) _
        refine Jvm.RoadKit.acmp (g := (mkF m 87 #[.val (.int p0_), .val (.int p1_), .val (.int p2_), .val (.int p3_), .val (.int p0_), .val (.ref b3), .val (.ref b11), .val (.ref b30), .val (.int (1 : Int32)), .unset] [(.ref w_REFERENCE), (.ref w_REFERENCE)])) X58 hx rfl rfl rfl (pc0 := 87) (pc' := 90) (same := true) rfl (hb hby at_87) rfl (decide_eq_true rfl) (by decide) (by decide) ?_
        show Steps p.tables e below (T58.setTop (mkF m 90 #[.val (.int p0_), .val (.int p1_), .val (.int p2_), .val (.int p3_), .val (.int p0_), .val (.ref b3), .val (.ref b11), .val (.ref b30), .val (.int (1 : Int32)), .unset] [])) _
        refine XS.aload X58.here hx rfl (hb hby at_90) rfl rfl ?_
        show Steps p.tables e below (T58.setTop (mkF m 92 #[.val (.int p0_), .val (.int p1_), .val (.int p2_), .val (.int p3_), .val (.int p0_), .val (.ref b3), .val (.ref b11), .val (.ref b30), .val (.int (1 : Int32)), .unset] [(.ref b30)])) _
        refine st59.trans ?_
        show Steps p.tables e below (T59.setTop (mkF m 95 #[.val (.int p0_), .val (.int p1_), .val (.int p2_), .val (.int p3_), .val (.int p0_), .val (.ref b3), .val (.ref b11), .val (.ref b30), .val (.int (1 : Int32)), .unset] [(.int (0 : Int32))])) _
        refine XS.ifNo X59.here hx rfl (hb hby at_95) rfl ((if0 _ _).trans (teq (by decide : (0 : Int32) = (0 : Int32))).2) ?_
        show Steps p.tables e below (T59.setTop (mkF m 98 #[.val (.int p0_), .val (.int p1_), .val (.int p2_), .val (.int p3_), .val (.int p0_), .val (.ref b3), .val (.ref b11), .val (.ref b30), .val (.int (1 : Int32)), .unset] [])) _
        refine XS.iconst X59.here hx rfl (hb hby at_98) ?_
        show Steps p.tables e below (T59.setTop (mkF m 99 #[.val (.int p0_), .val (.int p1_), .val (.int p2_), .val (.int p3_), .val (.int p0_), .val (.ref b3), .val (.ref b11), .val (.ref b30), .val (.int (1 : Int32)), .unset] [(.int (1 : Int32))])) _
        refine XS.goto X59.here hx rfl (pc0 := 99) (pc' := 103) rfl (hb hby at_99) (by decide) (by decide) ?_
        show Steps p.tables e below (T59.setTop (mkF m 103 #[.val (.int p0_), .val (.int p1_), .val (.int p2_), .val (.int p3_), .val (.int p0_), .val (.ref b3), .val (.ref b11), .val (.ref b30), .val (.int (1 : Int32)), .unset] [(.int (1 : Int32))])) _
        refine XS.istore X59.here hx rfl (hb hby at_103) rfl (l' := #[.val (.int p0_), .val (.int p1_), .val (.int p2_), .val (.int p3_), .val (.int p0_), .val (.ref b3), .val (.ref b11), .val (.ref b30), .val (.int (1 : Int32)), .val (.int (1 : Int32))]) rfl ?_
        show Steps p.tables e below (T59.setTop (mkF m 105 #[.val (.int p0_), .val (.int p1_), .val (.int p2_), .val (.int p3_), .val (.int p0_), .val (.ref b3), .val (.ref b11), .val (.ref b30), .val (.int (1 : Int32)), .val (.int (1 : Int32))] [])) _
        refine XS.iload X59.here hx rfl (hb hby at_105) rfl ?_
        show Steps p.tables e below (T59.setTop (mkF m 107 #[.val (.int p0_), .val (.int p1_), .val (.int p2_), .val (.int p3_), .val (.int p0_), .val (.ref b3), .val (.ref b11), .val (.ref b30), .val (.int (1 : Int32)), .val (.int (1 : Int32))] [(.int (1 : Int32))])) _
        refine XS.iload X59.here hx rfl (hb hby at_107) rfl ?_
        show Steps p.tables e below (T59.setTop (mkF m 109 #[.val (.int p0_), .val (.int p1_), .val (.int p2_), .val (.int p3_), .val (.int p0_), .val (.ref b3), .val (.ref b11), .val (.ref b30), .val (.int (1 : Int32)), .val (.int (1 : Int32))] [(.int (1 : Int32)), (.int (1 : Int32))])) _
        refine XS.icmpNo X59.here hx rfl (hb hby at_109) rfl (teq (by decide : (1 : Int32) = (1 : Int32))).2 ?_
        show Steps p.tables e below (T59.setTop (mkF m 112 #[.val (.int p0_), .val (.int p1_), .val (.int p2_), .val (.int p3_), .val (.int p0_), .val (.ref b3), .val (.ref b11), .val (.ref b30), .val (.int (1 : Int32)), .val (.int (1 : Int32))] [])) _
        refine XS.iconst X59.here hx rfl (hb hby at_112) ?_
        show Steps p.tables e below (T59.setTop (mkF m 113 #[.val (.int p0_), .val (.int p1_), .val (.int p2_), .val (.int p3_), .val (.int p0_), .val (.ref b3), .val (.ref b11), .val (.ref b30), .val (.int (1 : Int32)), .val (.int (1 : Int32))] [(.int (1 : Int32))])) _
        refine XS.goto X59.here hx rfl (pc0 := 113) (pc' := 117) rfl (hb hby at_113) (by decide) (by decide) ?_
        exact kt
      obtain ⟨fs, hr, hrun, hended, hW, hsame⟩ := X59.leave (v := some (.int (1 : Int32))) (fun h => by rw [Bd.returns] at h; cases h)
      refine ⟨_, _, pre61 _ (retN X59 hx (t := .boolean) Bd.returns (by simp) (hb hby at_117) hr), hrun, hended, _, _, rfl, ?_, ⟨_, rfl⟩, hW, hsame.mono (by decide) (by decide)⟩
      show QLaw Z p0_ p1_ p2_ p3_ w_COMPACT_STRINGS w_LONG w_FLOAT w_DOUBLE w_REFERENCE w_INT h0 n0 _ T59.heap _
      rw [e59']
      exact ⟨rfl, N60⟩
    · obtain ⟨cq63, kq63, q63a, q63b, q63c⟩ := isOf hZ e46' g38_0
      obtain ⟨_, _, ⟨T63, L63, k63, n63⟩, -, X63, ⟨Lc63, hQ63, l63, y63, z63⟩, st63⟩ := X46.virtualBack hx (y := (⟨"com/example/stackweave/stackweave/classfile/VerificationType", "kind", "()Lcom/example/stackweave/stackweave/classfile/ValueKind;"⟩ : MethodName)) (z := (⟨"com/example/stackweave/stackweave/classfile/VerificationType", "kind", "()Lcom/example/stackweave/stackweave/classfile/ValueKind;"⟩ : MethodName)) hown (mvT hZ (hw _ (List.mem_of_getElem? (i := 54) rfl))) (mvT hZ (hw _ (List.mem_of_getElem? (i := 55) rfl))) (notFace_of_selects (args := #[]) (mvT hZ (hw _ (List.mem_of_getElem? (i := 57) rfl)))) (mvT hZ (hw _ (List.mem_of_getElem? (i := 57) rfl))) (mvT hZ (hw _ (List.mem_of_getElem? (i := 56) rfl))) (by decide) (backOf (W := 0) (rmkind12 l Z a0 hw [] b30 p0_ b11 p1_ nnnb1_3_2_21 k1_3_2_21 ((p2_ &&& (255 : Int32)).toInt8.toInt32) w_REFERENCE h38 n0 f54 hq46_1_0 hq46_1_1 g38_0 g38_1 g38_2 g38_3 f47 f48 f50 f51 f53 P4 P13 P3) hZ (hw _ (List.mem_of_getElem? (i := 58) rfl)) (hw _ (List.mem_of_getElem? (i := 33) rfl)) (by decide) (by decide)) q63a q63c (g := (mkF m 81 #[.val (.int p0_), .val (.int p1_), .val (.int p2_), .val (.int p3_), .val (.int p0_), .val (.ref b3), .val (.ref b11), .val (.ref b30), .val (.int (1 : Int32)), .unset] [(.ref b30)])) rfl (by rw [hml]; rfl) (Steps.refl _) (argsL := []) (rest := []) (lenOf pd_8 rfl) rfl (by show 2 * 0 + _ ≤ _; exact Nat.le_of_eq rfl) (hb hby at_81) (fun _ _ => ⟨rfl, e46', (by decide : 4 + 0 ≤ _), (by decide : 9 + 0 ≤ _)⟩)
      dsimp only [Pt.U, Pt.locs, Pt.cells, Pt.slots] at X63 l63 y63 z63 st63 hQ63
      subst l63 y63 z63
      obtain ⟨h63, e63⟩ : ∃ z, T63.heap = z := ⟨_, rfl⟩
      rw [e63] at hQ63
      obtain ⟨rfl, N63q, hh63⟩ := hQ63
      have N64 := Fr.app N55 N63q
      have e63' : T63.heap = h38 := e63.trans hh63
      obtain ⟨T65, X65, e65, st65⟩ := getS2 X63 hx hZ hown (host := "") (Or.inl (hw _ (List.mem_of_getElem? (i := 62) rfl))) Via.refl e63' (P3.ext f54.2) (g := (mkF m 84 #[.val (.int p0_), .val (.int p1_), .val (.int p2_), .val (.int p3_), .val (.int p0_), .val (.ref b3), .val (.ref b11), .val (.ref b30), .val (.int (1 : Int32)), .unset] [(.ref w_REFERENCE)])) rfl (hb hby at_84)
      obtain ⟨cq66, kq66, q66a, q66b, q66c⟩ := isOf hZ e65 g38_0
      obtain ⟨_, _, ⟨T66, L66, k66, n66⟩, -, X66, ⟨Lc66, hQ66, l66, y66, z66⟩, st66⟩ := X65.virtualBack hx (y := (⟨"com/example/stackweave/stackweave/classfile/VerificationType", "isReference", "()Z"⟩ : MethodName)) (z := (⟨"com/example/stackweave/stackweave/classfile/VerificationType", "isReference", "()Z"⟩ : MethodName)) hown (mvT hZ (hw _ (List.mem_of_getElem? (i := 69) rfl))) (mvT hZ (hw _ (List.mem_of_getElem? (i := 70) rfl))) (notFace_of_selects (args := #[]) (mvT hZ (hw _ (List.mem_of_getElem? (i := 72) rfl)))) (mvT hZ (hw _ (List.mem_of_getElem? (i := 72) rfl))) (mvT hZ (hw _ (List.mem_of_getElem? (i := 71) rfl))) (by decide) (backOf (W := 0) (rmisReference13 l Z a0 hw [] b30 p0_ b11 p1_ nnnb1_3_2_21 k1_3_2_21 ((p2_ &&& (255 : Int32)).toInt8.toInt32) h38 n0 f54 hq46_1_0 hq46_1_1 g38_0 g38_1 g38_2 g38_3 f47 f48 f50 f51 f53) hZ (hw _ (List.mem_of_getElem? (i := 73) rfl)) (hw _ (List.mem_of_getElem? (i := 33) rfl)) (by decide) (by decide)) q66a q66c (g := (mkF m 92 #[.val (.int p0_), .val (.int p1_), .val (.int p2_), .val (.int p3_), .val (.int p0_), .val (.ref b3), .val (.ref b11), .val (.ref b30), .val (.int (1 : Int32)), .unset] [(.ref b30)])) rfl (by rw [hml]; rfl) (Steps.refl _) (argsL := []) (rest := []) (lenOf pd_7 rfl) rfl (by show 2 * 0 + _ ≤ _; exact Nat.le_of_eq rfl) (hb hby at_92) (fun _ _ => ⟨rfl, e65, (by decide : 4 + 0 ≤ _), (by decide : 9 + 0 ≤ _)⟩)
      dsimp only [Pt.U, Pt.locs, Pt.cells, Pt.slots] at X66 l66 y66 z66 st66 hQ66
      subst l66 y66 z66
      obtain ⟨h66, e66⟩ : ∃ z, T66.heap = z := ⟨_, rfl⟩
      rw [e66] at hQ66
      obtain ⟨rfl, N66q, hh66⟩ := hQ66
      have N67 := Fr.app N64 N66q
      have e66' : T66.heap = h38 := e66.trans hh66
      have pre68 : ∀ t, Steps p.tables e below (T66.setTop (mkF m 117 #[.val (.int p0_), .val (.int p1_), .val (.int p2_), .val (.int p3_), .val (.int p0_), .val (.ref b3), .val (.ref b11), .val (.ref b30), .val (.int (1 : Int32)), .val (.int (1 : Int32))] [(.int (1 : Int32))])) t → Steps p.tables e below (s₁.setTop (entryFrame m #[(.int p0_), (.int p1_), (.int p2_), (.int p3_)] maxLocals)) t := by
        intro t kt
        refine pre1 t ?_
        show Steps p.tables e below (s₁.setTop (mkF m 3 #[.val (.int p0_), .val (.int p1_), .val (.int p2_), .val (.int p3_), .unset, .unset, .unset, .unset, .unset, .unset] [(.int (p3_ &&& (1 : Int32)))])) _
        refine XS.ifNo X0.here hx rfl (hb hby at_3) rfl ((if0 _ _).trans (teq hc2).2) ?_
        show Steps p.tables e below (s₁.setTop (mkF m 6 #[.val (.int p0_), .val (.int p1_), .val (.int p2_), .val (.int p3_), .unset, .unset, .unset, .unset, .unset, .unset] [])) _
        refine XS.iloadN X0.here hx rfl (hb hby at_6) rfl ?_
        show Steps p.tables e below (s₁.setTop (mkF m 7 #[.val (.int p0_), .val (.int p1_), .val (.int p2_), .val (.int p3_), .unset, .unset, .unset, .unset, .unset, .unset] [(.int p0_)])) _
        refine XS.goto X0.here hx rfl (pc0 := 7) (pc' := 17) rfl (hb hby at_7) (by decide) (by decide) ?_
        show Steps p.tables e below (s₁.setTop (mkF m 17 #[.val (.int p0_), .val (.int p1_), .val (.int p2_), .val (.int p3_), .unset, .unset, .unset, .unset, .unset, .unset] [(.int p0_)])) _
        refine XS.istore X0.here hx rfl (hb hby at_17) rfl (l' := #[.val (.int p0_), .val (.int p1_), .val (.int p2_), .val (.int p3_), .val (.int p0_), .unset, .unset, .unset, .unset, .unset]) rfl ?_
        show Steps p.tables e below (s₁.setTop (mkF m 19 #[.val (.int p0_), .val (.int p1_), .val (.int p2_), .val (.int p3_), .val (.int p0_), .unset, .unset, .unset, .unset, .unset] [])) _
        refine XS.iconst X0.here hx rfl (hb hby at_19) ?_
        show Steps p.tables e below (s₁.setTop (mkF m 20 #[.val (.int p0_), .val (.int p1_), .val (.int p2_), .val (.int p3_), .val (.int p0_), .unset, .unset, .unset, .unset, .unset] [(.int (1 : Int32))])) _
        refine st3 _ ?_
        show Steps p.tables e below (T3.setTop (mkF m 22 #[.val (.int p0_), .val (.int p1_), .val (.int p2_), .val (.int p3_), .val (.int p0_), .unset, .unset, .unset, .unset, .unset] [(.ref b3)])) _
        refine XS.astore X3.here hx rfl (hb hby at_22) rfl rfl (l' := #[.val (.int p0_), .val (.int p1_), .val (.int p2_), .val (.int p3_), .val (.int p0_), .val (.ref b3), .unset, .unset, .unset, .unset]) rfl ?_
        show Steps p.tables e below (T3.setTop (mkF m 24 #[.val (.int p0_), .val (.int p1_), .val (.int p2_), .val (.int p3_), .val (.int p0_), .val (.ref b3), .unset, .unset, .unset, .unset] [])) _
        refine XS.aload X3.here hx rfl (hb hby at_24) rfl rfl ?_
        show Steps p.tables e below (T3.setTop (mkF m 26 #[.val (.int p0_), .val (.int p1_), .val (.int p2_), .val (.int p3_), .val (.int p0_), .val (.ref b3), .unset, .unset, .unset, .unset] [(.ref b3)])) _
        refine XS.iconst X3.here hx rfl (hb hby at_26) ?_
        show Steps p.tables e below (T3.setTop (mkF m 27 #[.val (.int p0_), .val (.int p1_), .val (.int p2_), .val (.int p3_), .val (.int p0_), .val (.ref b3), .unset, .unset, .unset, .unset] [(.int (0 : Int32)), (.ref b3)])) _
        refine XS.iloadN X3.here hx rfl (hb hby at_27) rfl ?_
        show Steps p.tables e below (T3.setTop (mkF m 28 #[.val (.int p0_), .val (.int p1_), .val (.int p2_), .val (.int p3_), .val (.int p0_), .val (.ref b3), .unset, .unset, .unset, .unset] [(.int p2_), (.int (0 : Int32)), (.ref b3)])) _
        refine XS.sipush X3.here hx rfl (hb hby at_28) ?_
        show Steps p.tables e below (T3.setTop (mkF m 31 #[.val (.int p0_), .val (.int p1_), .val (.int p2_), .val (.int p3_), .val (.int p0_), .val (.ref b3), .unset, .unset, .unset, .unset] [(.int (255 : Int32)), (.int p2_), (.int (0 : Int32)), (.ref b3)])) _
        refine XS.iand X3.here hx rfl (hb hby at_31) rfl ?_
        show Steps p.tables e below (T3.setTop (mkF m 32 #[.val (.int p0_), .val (.int p1_), .val (.int p2_), .val (.int p3_), .val (.int p0_), .val (.ref b3), .unset, .unset, .unset, .unset] [(.int (p2_ &&& (255 : Int32))), (.int (0 : Int32)), (.ref b3)])) _
        refine XS.i2c X3.here hx rfl (hb hby at_32) rfl ?_
        show Steps p.tables e below (T3.setTop (mkF m 33 #[.val (.int p0_), .val (.int p1_), .val (.int p2_), .val (.int p3_), .val (.int p0_), .val (.ref b3), .unset, .unset, .unset, .unset] [(.int ((p2_ &&& (255 : Int32)).toUInt32.toUInt16.toUInt32.toInt32)), (.int (0 : Int32)), (.ref b3)])) _
        rw [i2c_mask]
        show Steps p.tables e below (T3.setTop (mkF m 33 #[.val (.int p0_), .val (.int p1_), .val (.int p2_), .val (.int p3_), .val (.int p0_), .val (.ref b3), .unset, .unset, .unset, .unset] [(.int (p2_ &&& (255 : Int32))), (.int (0 : Int32)), (.ref b3)])) _
        refine st7 _ ?_
        show Steps p.tables e below (T7.setTop (mkF m 34 #[.val (.int p0_), .val (.int p1_), .val (.int p2_), .val (.int p3_), .val (.int p0_), .val (.ref b3), .unset, .unset, .unset, .unset] [])) _
        refine st11 _ ?_
        show Steps p.tables e below (T11.setTop (mkF m 37 #[.val (.int p0_), .val (.int p1_), .val (.int p2_), .val (.int p3_), .val (.int p0_), .val (.ref b3), .unset, .unset, .unset, .unset] [(.ref b11)])) _
        refine XS.dup X11.here hx rfl (hb hby at_37) rfl rfl ?_
        show Steps p.tables e below (T11.setTop (mkF m 38 #[.val (.int p0_), .val (.int p1_), .val (.int p2_), .val (.int p3_), .val (.int p0_), .val (.ref b3), .unset, .unset, .unset, .unset] [(.ref b11), (.ref b11)])) _
        refine XS.aload X11.here hx rfl (hb hby at_38) rfl rfl ?_
        show Steps p.tables e below (T11.setTop (mkF m 40 #[.val (.int p0_), .val (.int p1_), .val (.int p2_), .val (.int p3_), .val (.int p0_), .val (.ref b3), .unset, .unset, .unset, .unset] [(.ref b3), (.ref b11), (.ref b11)])) _
        refine st21.trans ?_
        show Steps p.tables e below (T21.setTop (mkF m 43 #[.val (.int p0_), .val (.int p1_), .val (.int p2_), .val (.int p3_), .val (.int p0_), .val (.ref b3), .unset, .unset, .unset, .unset] [(.ref b11)])) _
        refine XS.astore X21.here hx rfl (hb hby at_43) rfl rfl (l' := #[.val (.int p0_), .val (.int p1_), .val (.int p2_), .val (.int p3_), .val (.int p0_), .val (.ref b3), .val (.ref b11), .unset, .unset, .unset]) rfl ?_
        show Steps p.tables e below (T21.setTop (mkF m 45 #[.val (.int p0_), .val (.int p1_), .val (.int p2_), .val (.int p3_), .val (.int p0_), .val (.ref b3), .val (.ref b11), .unset, .unset, .unset] [])) _
        refine st30 _ ?_
        show Steps p.tables e below (T30.setTop (mkF m 48 #[.val (.int p0_), .val (.int p1_), .val (.int p2_), .val (.int p3_), .val (.int p0_), .val (.ref b3), .val (.ref b11), .unset, .unset, .unset] [(.ref b30)])) _
        refine XS.dup X30.here hx rfl (hb hby at_48) rfl rfl ?_
        show Steps p.tables e below (T30.setTop (mkF m 49 #[.val (.int p0_), .val (.int p1_), .val (.int p2_), .val (.int p3_), .val (.int p0_), .val (.ref b3), .val (.ref b11), .unset, .unset, .unset] [(.ref b30), (.ref b30)])) _
        refine XS.iload X30.here hx rfl (hb hby at_49) rfl ?_
        show Steps p.tables e below (T30.setTop (mkF m 51 #[.val (.int p0_), .val (.int p1_), .val (.int p2_), .val (.int p3_), .val (.int p0_), .val (.ref b3), .val (.ref b11), .unset, .unset, .unset] [(.int p0_), (.ref b30), (.ref b30)])) _
        refine XS.aload X30.here hx rfl (hb hby at_51) rfl rfl ?_
        show Steps p.tables e below (T30.setTop (mkF m 53 #[.val (.int p0_), .val (.int p1_), .val (.int p2_), .val (.int p3_), .val (.int p0_), .val (.ref b3), .val (.ref b11), .unset, .unset, .unset] [(.ref b11), (.int p0_), (.ref b30), (.ref b30)])) _
        refine XS.iloadN X30.here hx rfl (hb hby at_53) rfl ?_
        show Steps p.tables e below (T30.setTop (mkF m 54 #[.val (.int p0_), .val (.int p1_), .val (.int p2_), .val (.int p3_), .val (.int p0_), .val (.ref b3), .val (.ref b11), .unset, .unset, .unset] [(.int p1_), (.ref b11), (.int p0_), (.ref b30), (.ref b30)])) _
        refine st38.trans ?_
        show Steps p.tables e below (T38.setTop (mkF m 57 #[.val (.int p0_), .val (.int p1_), .val (.int p2_), .val (.int p3_), .val (.int p0_), .val (.ref b3), .val (.ref b11), .unset, .unset, .unset] [(.ref b30)])) _
        refine XS.astore X38.here hx rfl (hb hby at_57) rfl rfl (l' := #[.val (.int p0_), .val (.int p1_), .val (.int p2_), .val (.int p3_), .val (.int p0_), .val (.ref b3), .val (.ref b11), .val (.ref b30), .unset, .unset]) rfl ?_
        show Steps p.tables e below (T38.setTop (mkF m 59 #[.val (.int p0_), .val (.int p1_), .val (.int p2_), .val (.int p3_), .val (.int p0_), .val (.ref b3), .val (.ref b11), .val (.ref b30), .unset, .unset] [])) _
        refine XS.aload X38.here hx rfl (hb hby at_59) rfl rfl ?_
        show Steps p.tables e below (T38.setTop (mkF m 61 #[.val (.int p0_), .val (.int p1_), .val (.int p2_), .val (.int p3_), .val (.int p0_), .val (.ref b3), .val (.ref b11), .val (.ref b30), .unset, .unset] [(.ref b30)])) _
        refine st46.trans ?_
        show Steps p.tables e below (T46.setTop (mkF m 64 #[.val (.int p0_), .val (.int p1_), .val (.int p2_), .val (.int p3_), .val (.int p0_), .val (.ref b3), .val (.ref b11), .val (.ref b30), .unset, .unset] [(.int (1 : Int32))])) _
        refine XS.istore X46.here hx rfl (hb hby at_64) rfl (l' := #[.val (.int p0_), .val (.int p1_), .val (.int p2_), .val (.int p3_), .val (.int p0_), .val (.ref b3), .val (.ref b11), .val (.ref b30), .val (.int (1 : Int32)), .unset]) rfl ?_
        show Steps p.tables e below (T46.setTop (mkF m 66 #[.val (.int p0_), .val (.int p1_), .val (.int p2_), .val (.int p3_), .val (.int p0_), .val (.ref b3), .val (.ref b11), .val (.ref b30), .val (.int (1 : Int32)), .unset] [])) _
        refine XS.iload X46.here hx rfl (hb hby at_66) rfl ?_
        show Steps p.tables e below (T46.setTop (mkF m 68 #[.val (.int p0_), .val (.int p1_), .val (.int p2_), .val (.int p3_), .val (.int p0_), .val (.ref b3), .val (.ref b11), .val (.ref b30), .val (.int (1 : Int32)), .unset] [(.int p0_)])) _
        refine XS.iconst X46.here hx rfl (hb hby at_68) ?_
        show Steps p.tables e below (T46.setTop (mkF m 69 #[.val (.int p0_), .val (.int p1_), .val (.int p2_), .val (.int p3_), .val (.int p0_), .val (.ref b3), .val (.ref b11), .val (.ref b30), .val (.int (1 : Int32)), .unset] [(.int (1 : Int32)), (.int p0_)])) _
        refine XS.icmpNo X46.here hx rfl (hb hby at_69) rfl (flt (by intro hz; have lt_0 : ((1 : Int32)).toInt = 1 := rfl; have lt_1 : ((6 : Int32)).toInt = 6 := rfl; have lt_2 : ((8 : Int32)).toInt = 8 := rfl; simp only [Int32.lt_iff_toInt_lt, Int64.lt_iff_toInt_lt, ← Int32.toInt_inj, ← Int64.toInt_inj] at hz hq46_1_0 hq46_1_1; omega)).1 ?_
        show Steps p.tables e below (T46.setTop (mkF m 72 #[.val (.int p0_), .val (.int p1_), .val (.int p2_), .val (.int p3_), .val (.int p0_), .val (.ref b3), .val (.ref b11), .val (.ref b30), .val (.int (1 : Int32)), .unset] [])) _
        refine XS.iload X46.here hx rfl (hb hby at_72) rfl ?_
        show Steps p.tables e below (T46.setTop (mkF m 74 #[.val (.int p0_), .val (.int p1_), .val (.int p2_), .val (.int p3_), .val (.int p0_), .val (.ref b3), .val (.ref b11), .val (.ref b30), .val (.int (1 : Int32)), .unset] [(.int p0_)])) _
        refine XS.bipush X46.here hx rfl (hb hby at_74) ?_
        show Steps p.tables e below (T46.setTop (mkF m 76 #[.val (.int p0_), .val (.int p1_), .val (.int p2_), .val (.int p3_), .val (.int p0_), .val (.ref b3), .val (.ref b11), .val (.ref b30), .val (.int (1 : Int32)), .unset] [(.int (8 : Int32)), (.int p0_)])) _
        refine XS.icmpNo X46.here hx rfl (hb hby at_76) rfl (flt (by intro hz; have lt_0 : ((6 : Int32)).toInt = 6 := rfl; have lt_1 : ((8 : Int32)).toInt = 8 := rfl; simp only [Int32.lt_iff_toInt_lt, Int64.lt_iff_toInt_lt, ← Int32.toInt_inj, ← Int64.toInt_inj] at hz hq46_1_0 hq46_1_1; omega)).2.2.1 ?_
        show Steps p.tables e below (T46.setTop (mkF m 79 #[.val (.int p0_), .val (.int p1_), .val (.int p2_), .val (.int p3_), .val (.int p0_), .val (.ref b3), .val (.ref b11), .val (.ref b30), .val (.int (1 : Int32)), .unset] [])) _
        refine XS.aload X46.here hx rfl (hb hby at_79) rfl rfl ?_
        show Steps p.tables e below (T46.setTop (mkF m 81 #[.val (.int p0_), .val (.int p1_), .val (.int p2_), .val (.int p3_), .val (.int p0_), .val (.ref b3), .val (.ref b11), .val (.ref b30), .val (.int (1 : Int32)), .unset] [(.ref b30)])) _
        refine st63.trans ?_
        show Steps p.tables e below (T63.setTop (mkF m 84 #[.val (.int p0_), .val (.int p1_), .val (.int p2_), .val (.int p3_), .val (.int p0_), .val (.ref b3), .val (.ref b11), .val (.ref b30), .val (.int (1 : Int32)), .unset] [(.ref w_REFERENCE)])) _
        refine st65 _ ?_
        show Steps p.tables e below (T65.setTop (mkF m 87 #[.val (.int p0_), .val (.int p1_), .val (.int p2_), .val (.int p3_), .val (.int p0_), .val (.ref b3), .val (.ref b11), .val (.ref b30), .val (.int (1 : Int32)), .unset] [(.ref w_REFERENCE), (.ref w_REFERENCE)])) _
        refine Jvm.RoadKit.acmp (g := (mkF m 87 #[.val (.int p0_), .val (.int p1_), .val (.int p2_), .val (.int p3_), .val (.int p0_), .val (.ref b3), .val (.ref b11), .val (.ref b30), .val (.int (1 : Int32)), .unset] [(.ref w_REFERENCE), (.ref w_REFERENCE)])) X65 hx rfl rfl rfl (pc0 := 87) (pc' := 90) (same := true) rfl (hb hby at_87) rfl (decide_eq_true rfl) (by decide) (by decide) ?_
        show Steps p.tables e below (T65.setTop (mkF m 90 #[.val (.int p0_), .val (.int p1_), .val (.int p2_), .val (.int p3_), .val (.int p0_), .val (.ref b3), .val (.ref b11), .val (.ref b30), .val (.int (1 : Int32)), .unset] [])) _
        refine XS.aload X65.here hx rfl (hb hby at_90) rfl rfl ?_
        show Steps p.tables e below (T65.setTop (mkF m 92 #[.val (.int p0_), .val (.int p1_), .val (.int p2_), .val (.int p3_), .val (.int p0_), .val (.ref b3), .val (.ref b11), .val (.ref b30), .val (.int (1 : Int32)), .unset] [(.ref b30)])) _
        refine st66.trans ?_
        show Steps p.tables e below (T66.setTop (mkF m 95 #[.val (.int p0_), .val (.int p1_), .val (.int p2_), .val (.int p3_), .val (.int p0_), .val (.ref b3), .val (.ref b11), .val (.ref b30), .val (.int (1 : Int32)), .unset] [(.int (0 : Int32))])) _
        refine XS.ifNo X66.here hx rfl (hb hby at_95) rfl ((if0 _ _).trans (teq (by decide : (0 : Int32) = (0 : Int32))).2) ?_
        show Steps p.tables e below (T66.setTop (mkF m 98 #[.val (.int p0_), .val (.int p1_), .val (.int p2_), .val (.int p3_), .val (.int p0_), .val (.ref b3), .val (.ref b11), .val (.ref b30), .val (.int (1 : Int32)), .unset] [])) _
        refine XS.iconst X66.here hx rfl (hb hby at_98) ?_
        show Steps p.tables e below (T66.setTop (mkF m 99 #[.val (.int p0_), .val (.int p1_), .val (.int p2_), .val (.int p3_), .val (.int p0_), .val (.ref b3), .val (.ref b11), .val (.ref b30), .val (.int (1 : Int32)), .unset] [(.int (1 : Int32))])) _
        refine XS.goto X66.here hx rfl (pc0 := 99) (pc' := 103) rfl (hb hby at_99) (by decide) (by decide) ?_
        show Steps p.tables e below (T66.setTop (mkF m 103 #[.val (.int p0_), .val (.int p1_), .val (.int p2_), .val (.int p3_), .val (.int p0_), .val (.ref b3), .val (.ref b11), .val (.ref b30), .val (.int (1 : Int32)), .unset] [(.int (1 : Int32))])) _
        refine XS.istore X66.here hx rfl (hb hby at_103) rfl (l' := #[.val (.int p0_), .val (.int p1_), .val (.int p2_), .val (.int p3_), .val (.int p0_), .val (.ref b3), .val (.ref b11), .val (.ref b30), .val (.int (1 : Int32)), .val (.int (1 : Int32))]) rfl ?_
        show Steps p.tables e below (T66.setTop (mkF m 105 #[.val (.int p0_), .val (.int p1_), .val (.int p2_), .val (.int p3_), .val (.int p0_), .val (.ref b3), .val (.ref b11), .val (.ref b30), .val (.int (1 : Int32)), .val (.int (1 : Int32))] [])) _
        refine XS.iload X66.here hx rfl (hb hby at_105) rfl ?_
        show Steps p.tables e below (T66.setTop (mkF m 107 #[.val (.int p0_), .val (.int p1_), .val (.int p2_), .val (.int p3_), .val (.int p0_), .val (.ref b3), .val (.ref b11), .val (.ref b30), .val (.int (1 : Int32)), .val (.int (1 : Int32))] [(.int (1 : Int32))])) _
        refine XS.iload X66.here hx rfl (hb hby at_107) rfl ?_
        show Steps p.tables e below (T66.setTop (mkF m 109 #[.val (.int p0_), .val (.int p1_), .val (.int p2_), .val (.int p3_), .val (.int p0_), .val (.ref b3), .val (.ref b11), .val (.ref b30), .val (.int (1 : Int32)), .val (.int (1 : Int32))] [(.int (1 : Int32)), (.int (1 : Int32))])) _
        refine XS.icmpNo X66.here hx rfl (hb hby at_109) rfl (teq (by decide : (1 : Int32) = (1 : Int32))).2 ?_
        show Steps p.tables e below (T66.setTop (mkF m 112 #[.val (.int p0_), .val (.int p1_), .val (.int p2_), .val (.int p3_), .val (.int p0_), .val (.ref b3), .val (.ref b11), .val (.ref b30), .val (.int (1 : Int32)), .val (.int (1 : Int32))] [])) _
        refine XS.iconst X66.here hx rfl (hb hby at_112) ?_
        show Steps p.tables e below (T66.setTop (mkF m 113 #[.val (.int p0_), .val (.int p1_), .val (.int p2_), .val (.int p3_), .val (.int p0_), .val (.ref b3), .val (.ref b11), .val (.ref b30), .val (.int (1 : Int32)), .val (.int (1 : Int32))] [(.int (1 : Int32))])) _
        refine XS.goto X66.here hx rfl (pc0 := 113) (pc' := 117) rfl (hb hby at_113) (by decide) (by decide) ?_
        exact kt
      obtain ⟨fs, hr, hrun, hended, hW, hsame⟩ := X66.leave (v := some (.int (1 : Int32))) (fun h => by rw [Bd.returns] at h; cases h)
      refine ⟨_, _, pre68 _ (retN X66 hx (t := .boolean) Bd.returns (by simp) (hb hby at_117) hr), hrun, hended, _, _, rfl, ?_, ⟨_, rfl⟩, hW, hsame.mono (by decide) (by decide)⟩
      show QLaw Z p0_ p1_ p2_ p3_ w_COMPACT_STRINGS w_LONG w_FLOAT w_DOUBLE w_REFERENCE w_INT h0 n0 _ T66.heap _
      rw [e66']
      exact ⟨rfl, N67⟩
    · have pre70 : ∀ t, Steps p.tables e below (T46.setTop (mkF m 69 #[.val (.int p0_), .val (.int p1_), .val (.int p2_), .val (.int p3_), .val (.int p0_), .val (.ref b3), .val (.ref b11), .val (.ref b30), .val (.int (0 : Int32)), .unset] [(.int (1 : Int32)), (.int p0_)])) t → Steps p.tables e below (s₁.setTop (entryFrame m #[(.int p0_), (.int p1_), (.int p2_), (.int p3_)] maxLocals)) t := by
        intro t kt
        refine pre1 t ?_
        show Steps p.tables e below (s₁.setTop (mkF m 3 #[.val (.int p0_), .val (.int p1_), .val (.int p2_), .val (.int p3_), .unset, .unset, .unset, .unset, .unset, .unset] [(.int (p3_ &&& (1 : Int32)))])) _
        refine XS.ifNo X0.here hx rfl (hb hby at_3) rfl ((if0 _ _).trans (teq hc2).2) ?_
        show Steps p.tables e below (s₁.setTop (mkF m 6 #[.val (.int p0_), .val (.int p1_), .val (.int p2_), .val (.int p3_), .unset, .unset, .unset, .unset, .unset, .unset] [])) _
        refine XS.iloadN X0.here hx rfl (hb hby at_6) rfl ?_
        show Steps p.tables e below (s₁.setTop (mkF m 7 #[.val (.int p0_), .val (.int p1_), .val (.int p2_), .val (.int p3_), .unset, .unset, .unset, .unset, .unset, .unset] [(.int p0_)])) _
        refine XS.goto X0.here hx rfl (pc0 := 7) (pc' := 17) rfl (hb hby at_7) (by decide) (by decide) ?_
        show Steps p.tables e below (s₁.setTop (mkF m 17 #[.val (.int p0_), .val (.int p1_), .val (.int p2_), .val (.int p3_), .unset, .unset, .unset, .unset, .unset, .unset] [(.int p0_)])) _
        refine XS.istore X0.here hx rfl (hb hby at_17) rfl (l' := #[.val (.int p0_), .val (.int p1_), .val (.int p2_), .val (.int p3_), .val (.int p0_), .unset, .unset, .unset, .unset, .unset]) rfl ?_
        show Steps p.tables e below (s₁.setTop (mkF m 19 #[.val (.int p0_), .val (.int p1_), .val (.int p2_), .val (.int p3_), .val (.int p0_), .unset, .unset, .unset, .unset, .unset] [])) _
        refine XS.iconst X0.here hx rfl (hb hby at_19) ?_
        show Steps p.tables e below (s₁.setTop (mkF m 20 #[.val (.int p0_), .val (.int p1_), .val (.int p2_), .val (.int p3_), .val (.int p0_), .unset, .unset, .unset, .unset, .unset] [(.int (1 : Int32))])) _
        refine st3 _ ?_
        show Steps p.tables e below (T3.setTop (mkF m 22 #[.val (.int p0_), .val (.int p1_), .val (.int p2_), .val (.int p3_), .val (.int p0_), .unset, .unset, .unset, .unset, .unset] [(.ref b3)])) _
        refine XS.astore X3.here hx rfl (hb hby at_22) rfl rfl (l' := #[.val (.int p0_), .val (.int p1_), .val (.int p2_), .val (.int p3_), .val (.int p0_), .val (.ref b3), .unset, .unset, .unset, .unset]) rfl ?_
        show Steps p.tables e below (T3.setTop (mkF m 24 #[.val (.int p0_), .val (.int p1_), .val (.int p2_), .val (.int p3_), .val (.int p0_), .val (.ref b3), .unset, .unset, .unset, .unset] [])) _
        refine XS.aload X3.here hx rfl (hb hby at_24) rfl rfl ?_
        show Steps p.tables e below (T3.setTop (mkF m 26 #[.val (.int p0_), .val (.int p1_), .val (.int p2_), .val (.int p3_), .val (.int p0_), .val (.ref b3), .unset, .unset, .unset, .unset] [(.ref b3)])) _
        refine XS.iconst X3.here hx rfl (hb hby at_26) ?_
        show Steps p.tables e below (T3.setTop (mkF m 27 #[.val (.int p0_), .val (.int p1_), .val (.int p2_), .val (.int p3_), .val (.int p0_), .val (.ref b3), .unset, .unset, .unset, .unset] [(.int (0 : Int32)), (.ref b3)])) _
        refine XS.iloadN X3.here hx rfl (hb hby at_27) rfl ?_
        show Steps p.tables e below (T3.setTop (mkF m 28 #[.val (.int p0_), .val (.int p1_), .val (.int p2_), .val (.int p3_), .val (.int p0_), .val (.ref b3), .unset, .unset, .unset, .unset] [(.int p2_), (.int (0 : Int32)), (.ref b3)])) _
        refine XS.sipush X3.here hx rfl (hb hby at_28) ?_
        show Steps p.tables e below (T3.setTop (mkF m 31 #[.val (.int p0_), .val (.int p1_), .val (.int p2_), .val (.int p3_), .val (.int p0_), .val (.ref b3), .unset, .unset, .unset, .unset] [(.int (255 : Int32)), (.int p2_), (.int (0 : Int32)), (.ref b3)])) _
        refine XS.iand X3.here hx rfl (hb hby at_31) rfl ?_
        show Steps p.tables e below (T3.setTop (mkF m 32 #[.val (.int p0_), .val (.int p1_), .val (.int p2_), .val (.int p3_), .val (.int p0_), .val (.ref b3), .unset, .unset, .unset, .unset] [(.int (p2_ &&& (255 : Int32))), (.int (0 : Int32)), (.ref b3)])) _
        refine XS.i2c X3.here hx rfl (hb hby at_32) rfl ?_
        show Steps p.tables e below (T3.setTop (mkF m 33 #[.val (.int p0_), .val (.int p1_), .val (.int p2_), .val (.int p3_), .val (.int p0_), .val (.ref b3), .unset, .unset, .unset, .unset] [(.int ((p2_ &&& (255 : Int32)).toUInt32.toUInt16.toUInt32.toInt32)), (.int (0 : Int32)), (.ref b3)])) _
        rw [i2c_mask]
        show Steps p.tables e below (T3.setTop (mkF m 33 #[.val (.int p0_), .val (.int p1_), .val (.int p2_), .val (.int p3_), .val (.int p0_), .val (.ref b3), .unset, .unset, .unset, .unset] [(.int (p2_ &&& (255 : Int32))), (.int (0 : Int32)), (.ref b3)])) _
        refine st7 _ ?_
        show Steps p.tables e below (T7.setTop (mkF m 34 #[.val (.int p0_), .val (.int p1_), .val (.int p2_), .val (.int p3_), .val (.int p0_), .val (.ref b3), .unset, .unset, .unset, .unset] [])) _
        refine st11 _ ?_
        show Steps p.tables e below (T11.setTop (mkF m 37 #[.val (.int p0_), .val (.int p1_), .val (.int p2_), .val (.int p3_), .val (.int p0_), .val (.ref b3), .unset, .unset, .unset, .unset] [(.ref b11)])) _
        refine XS.dup X11.here hx rfl (hb hby at_37) rfl rfl ?_
        show Steps p.tables e below (T11.setTop (mkF m 38 #[.val (.int p0_), .val (.int p1_), .val (.int p2_), .val (.int p3_), .val (.int p0_), .val (.ref b3), .unset, .unset, .unset, .unset] [(.ref b11), (.ref b11)])) _
        refine XS.aload X11.here hx rfl (hb hby at_38) rfl rfl ?_
        show Steps p.tables e below (T11.setTop (mkF m 40 #[.val (.int p0_), .val (.int p1_), .val (.int p2_), .val (.int p3_), .val (.int p0_), .val (.ref b3), .unset, .unset, .unset, .unset] [(.ref b3), (.ref b11), (.ref b11)])) _
        refine st21.trans ?_
        show Steps p.tables e below (T21.setTop (mkF m 43 #[.val (.int p0_), .val (.int p1_), .val (.int p2_), .val (.int p3_), .val (.int p0_), .val (.ref b3), .unset, .unset, .unset, .unset] [(.ref b11)])) _
        refine XS.astore X21.here hx rfl (hb hby at_43) rfl rfl (l' := #[.val (.int p0_), .val (.int p1_), .val (.int p2_), .val (.int p3_), .val (.int p0_), .val (.ref b3), .val (.ref b11), .unset, .unset, .unset]) rfl ?_
        show Steps p.tables e below (T21.setTop (mkF m 45 #[.val (.int p0_), .val (.int p1_), .val (.int p2_), .val (.int p3_), .val (.int p0_), .val (.ref b3), .val (.ref b11), .unset, .unset, .unset] [])) _
        refine st30 _ ?_
        show Steps p.tables e below (T30.setTop (mkF m 48 #[.val (.int p0_), .val (.int p1_), .val (.int p2_), .val (.int p3_), .val (.int p0_), .val (.ref b3), .val (.ref b11), .unset, .unset, .unset] [(.ref b30)])) _
        refine XS.dup X30.here hx rfl (hb hby at_48) rfl rfl ?_
        show Steps p.tables e below (T30.setTop (mkF m 49 #[.val (.int p0_), .val (.int p1_), .val (.int p2_), .val (.int p3_), .val (.int p0_), .val (.ref b3), .val (.ref b11), .unset, .unset, .unset] [(.ref b30), (.ref b30)])) _
        refine XS.iload X30.here hx rfl (hb hby at_49) rfl ?_
        show Steps p.tables e below (T30.setTop (mkF m 51 #[.val (.int p0_), .val (.int p1_), .val (.int p2_), .val (.int p3_), .val (.int p0_), .val (.ref b3), .val (.ref b11), .unset, .unset, .unset] [(.int p0_), (.ref b30), (.ref b30)])) _
        refine XS.aload X30.here hx rfl (hb hby at_51) rfl rfl ?_
        show Steps p.tables e below (T30.setTop (mkF m 53 #[.val (.int p0_), .val (.int p1_), .val (.int p2_), .val (.int p3_), .val (.int p0_), .val (.ref b3), .val (.ref b11), .unset, .unset, .unset] [(.ref b11), (.int p0_), (.ref b30), (.ref b30)])) _
        refine XS.iloadN X30.here hx rfl (hb hby at_53) rfl ?_
        show Steps p.tables e below (T30.setTop (mkF m 54 #[.val (.int p0_), .val (.int p1_), .val (.int p2_), .val (.int p3_), .val (.int p0_), .val (.ref b3), .val (.ref b11), .unset, .unset, .unset] [(.int p1_), (.ref b11), (.int p0_), (.ref b30), (.ref b30)])) _
        refine st38.trans ?_
        show Steps p.tables e below (T38.setTop (mkF m 57 #[.val (.int p0_), .val (.int p1_), .val (.int p2_), .val (.int p3_), .val (.int p0_), .val (.ref b3), .val (.ref b11), .unset, .unset, .unset] [(.ref b30)])) _
        refine XS.astore X38.here hx rfl (hb hby at_57) rfl rfl (l' := #[.val (.int p0_), .val (.int p1_), .val (.int p2_), .val (.int p3_), .val (.int p0_), .val (.ref b3), .val (.ref b11), .val (.ref b30), .unset, .unset]) rfl ?_
        show Steps p.tables e below (T38.setTop (mkF m 59 #[.val (.int p0_), .val (.int p1_), .val (.int p2_), .val (.int p3_), .val (.int p0_), .val (.ref b3), .val (.ref b11), .val (.ref b30), .unset, .unset] [])) _
        refine XS.aload X38.here hx rfl (hb hby at_59) rfl rfl ?_
        show Steps p.tables e below (T38.setTop (mkF m 61 #[.val (.int p0_), .val (.int p1_), .val (.int p2_), .val (.int p3_), .val (.int p0_), .val (.ref b3), .val (.ref b11), .val (.ref b30), .unset, .unset] [(.ref b30)])) _
        refine st46.trans ?_
        show Steps p.tables e below (T46.setTop (mkF m 64 #[.val (.int p0_), .val (.int p1_), .val (.int p2_), .val (.int p3_), .val (.int p0_), .val (.ref b3), .val (.ref b11), .val (.ref b30), .unset, .unset] [(.int (0 : Int32))])) _
        refine XS.istore X46.here hx rfl (hb hby at_64) rfl (l' := #[.val (.int p0_), .val (.int p1_), .val (.int p2_), .val (.int p3_), .val (.int p0_), .val (.ref b3), .val (.ref b11), .val (.ref b30), .val (.int (0 : Int32)), .unset]) rfl ?_
        show Steps p.tables e below (T46.setTop (mkF m 66 #[.val (.int p0_), .val (.int p1_), .val (.int p2_), .val (.int p3_), .val (.int p0_), .val (.ref b3), .val (.ref b11), .val (.ref b30), .val (.int (0 : Int32)), .unset] [])) _
        refine XS.iload X46.here hx rfl (hb hby at_66) rfl ?_
        show Steps p.tables e below (T46.setTop (mkF m 68 #[.val (.int p0_), .val (.int p1_), .val (.int p2_), .val (.int p3_), .val (.int p0_), .val (.ref b3), .val (.ref b11), .val (.ref b30), .val (.int (0 : Int32)), .unset] [(.int p0_)])) _
        refine XS.iconst X46.here hx rfl (hb hby at_68) ?_
        exact kt
      by_cases hc71 : p0_ < (1 : Int32)
      · have pre72 : ∀ t, Steps p.tables e below (T46.setTop (mkF m 128 #[.val (.int p0_), .val (.int p1_), .val (.int p2_), .val (.int p3_), .val (.int p0_), .val (.ref b3), .val (.ref b11), .val (.ref b30), .val (.int (0 : Int32)), .unset] [(.int (1 : Int32))])) t → Steps p.tables e below (s₁.setTop (entryFrame m #[(.int p0_), (.int p1_), (.int p2_), (.int p3_)] maxLocals)) t := by
          intro t kt
          refine pre70 t ?_
          show Steps p.tables e below (T46.setTop (mkF m 69 #[.val (.int p0_), .val (.int p1_), .val (.int p2_), .val (.int p3_), .val (.int p0_), .val (.ref b3), .val (.ref b11), .val (.ref b30), .val (.int (0 : Int32)), .unset] [(.int (1 : Int32)), (.int p0_)])) _
          refine XS.icmpYes X46.here hx rfl (pc0 := 69) (pc' := 118) rfl (hb hby at_69) rfl (tlt hc71).1 (by decide) (by decide) ?_
          show Steps p.tables e below (T46.setTop (mkF m 118 #[.val (.int p0_), .val (.int p1_), .val (.int p2_), .val (.int p3_), .val (.int p0_), .val (.ref b3), .val (.ref b11), .val (.ref b30), .val (.int (0 : Int32)), .unset] [])) _
          refine XS.iload X46.here hx rfl (hb hby at_118) rfl ?_
          show Steps p.tables e below (T46.setTop (mkF m 120 #[.val (.int p0_), .val (.int p1_), .val (.int p2_), .val (.int p3_), .val (.int p0_), .val (.ref b3), .val (.ref b11), .val (.ref b30), .val (.int (0 : Int32)), .unset] [(.int (0 : Int32))])) _
          refine XS.ifNo X46.here hx rfl (hb hby at_120) rfl ((if0 _ _).trans (teq (by decide : (0 : Int32) = (0 : Int32))).2) ?_
          show Steps p.tables e below (T46.setTop (mkF m 123 #[.val (.int p0_), .val (.int p1_), .val (.int p2_), .val (.int p3_), .val (.int p0_), .val (.ref b3), .val (.ref b11), .val (.ref b30), .val (.int (0 : Int32)), .unset] [])) _
          refine XS.iconst X46.here hx rfl (hb hby at_123) ?_
          show Steps p.tables e below (T46.setTop (mkF m 124 #[.val (.int p0_), .val (.int p1_), .val (.int p2_), .val (.int p3_), .val (.int p0_), .val (.ref b3), .val (.ref b11), .val (.ref b30), .val (.int (0 : Int32)), .unset] [(.int (1 : Int32))])) _
          refine XS.goto X46.here hx rfl (pc0 := 124) (pc' := 128) rfl (hb hby at_124) (by decide) (by decide) ?_
          exact kt
        obtain ⟨fs, hr, hrun, hended, hW, hsame⟩ := X46.leave (v := some (.int (1 : Int32))) (fun h => by rw [Bd.returns] at h; cases h)
        refine ⟨_, _, pre72 _ (retN X46 hx (t := .boolean) Bd.returns (by simp) (hb hby at_128) hr), hrun, hended, _, _, rfl, ?_, ⟨_, rfl⟩, hW, hsame.mono (by decide) (by decide)⟩
        show QLaw Z p0_ p1_ p2_ p3_ w_COMPACT_STRINGS w_LONG w_FLOAT w_DOUBLE w_REFERENCE w_INT h0 n0 _ T46.heap _
        rw [e46']
        exact ⟨rfl, N55⟩
      · have pre74 : ∀ t, Steps p.tables e below (T46.setTop (mkF m 76 #[.val (.int p0_), .val (.int p1_), .val (.int p2_), .val (.int p3_), .val (.int p0_), .val (.ref b3), .val (.ref b11), .val (.ref b30), .val (.int (0 : Int32)), .unset] [(.int (8 : Int32)), (.int p0_)])) t → Steps p.tables e below (s₁.setTop (entryFrame m #[(.int p0_), (.int p1_), (.int p2_), (.int p3_)] maxLocals)) t := by
          intro t kt
          refine pre70 t ?_
          show Steps p.tables e below (T46.setTop (mkF m 69 #[.val (.int p0_), .val (.int p1_), .val (.int p2_), .val (.int p3_), .val (.int p0_), .val (.ref b3), .val (.ref b11), .val (.ref b30), .val (.int (0 : Int32)), .unset] [(.int (1 : Int32)), (.int p0_)])) _
          refine XS.icmpNo X46.here hx rfl (hb hby at_69) rfl (flt hc71).1 ?_
          show Steps p.tables e below (T46.setTop (mkF m 72 #[.val (.int p0_), .val (.int p1_), .val (.int p2_), .val (.int p3_), .val (.int p0_), .val (.ref b3), .val (.ref b11), .val (.ref b30), .val (.int (0 : Int32)), .unset] [])) _
          refine XS.iload X46.here hx rfl (hb hby at_72) rfl ?_
          show Steps p.tables e below (T46.setTop (mkF m 74 #[.val (.int p0_), .val (.int p1_), .val (.int p2_), .val (.int p3_), .val (.int p0_), .val (.ref b3), .val (.ref b11), .val (.ref b30), .val (.int (0 : Int32)), .unset] [(.int p0_)])) _
          refine XS.bipush X46.here hx rfl (hb hby at_74) ?_
          exact kt
        by_cases hc75 : (8 : Int32) < p0_
        · have pre76 : ∀ t, Steps p.tables e below (T46.setTop (mkF m 128 #[.val (.int p0_), .val (.int p1_), .val (.int p2_), .val (.int p3_), .val (.int p0_), .val (.ref b3), .val (.ref b11), .val (.ref b30), .val (.int (0 : Int32)), .unset] [(.int (1 : Int32))])) t → Steps p.tables e below (s₁.setTop (entryFrame m #[(.int p0_), (.int p1_), (.int p2_), (.int p3_)] maxLocals)) t := by
            intro t kt
            refine pre74 t ?_
            show Steps p.tables e below (T46.setTop (mkF m 76 #[.val (.int p0_), .val (.int p1_), .val (.int p2_), .val (.int p3_), .val (.int p0_), .val (.ref b3), .val (.ref b11), .val (.ref b30), .val (.int (0 : Int32)), .unset] [(.int (8 : Int32)), (.int p0_)])) _
            refine XS.icmpYes X46.here hx rfl (pc0 := 76) (pc' := 118) rfl (hb hby at_76) rfl (tlt hc75).2.2.1 (by decide) (by decide) ?_
            show Steps p.tables e below (T46.setTop (mkF m 118 #[.val (.int p0_), .val (.int p1_), .val (.int p2_), .val (.int p3_), .val (.int p0_), .val (.ref b3), .val (.ref b11), .val (.ref b30), .val (.int (0 : Int32)), .unset] [])) _
            refine XS.iload X46.here hx rfl (hb hby at_118) rfl ?_
            show Steps p.tables e below (T46.setTop (mkF m 120 #[.val (.int p0_), .val (.int p1_), .val (.int p2_), .val (.int p3_), .val (.int p0_), .val (.ref b3), .val (.ref b11), .val (.ref b30), .val (.int (0 : Int32)), .unset] [(.int (0 : Int32))])) _
            refine XS.ifNo X46.here hx rfl (hb hby at_120) rfl ((if0 _ _).trans (teq (by decide : (0 : Int32) = (0 : Int32))).2) ?_
            show Steps p.tables e below (T46.setTop (mkF m 123 #[.val (.int p0_), .val (.int p1_), .val (.int p2_), .val (.int p3_), .val (.int p0_), .val (.ref b3), .val (.ref b11), .val (.ref b30), .val (.int (0 : Int32)), .unset] [])) _
            refine XS.iconst X46.here hx rfl (hb hby at_123) ?_
            show Steps p.tables e below (T46.setTop (mkF m 124 #[.val (.int p0_), .val (.int p1_), .val (.int p2_), .val (.int p3_), .val (.int p0_), .val (.ref b3), .val (.ref b11), .val (.ref b30), .val (.int (0 : Int32)), .unset] [(.int (1 : Int32))])) _
            refine XS.goto X46.here hx rfl (pc0 := 124) (pc' := 128) rfl (hb hby at_124) (by decide) (by decide) ?_
            exact kt
          obtain ⟨fs, hr, hrun, hended, hW, hsame⟩ := X46.leave (v := some (.int (1 : Int32))) (fun h => by rw [Bd.returns] at h; cases h)
          refine ⟨_, _, pre76 _ (retN X46 hx (t := .boolean) Bd.returns (by simp) (hb hby at_128) hr), hrun, hended, _, _, rfl, ?_, ⟨_, rfl⟩, hW, hsame.mono (by decide) (by decide)⟩
          show QLaw Z p0_ p1_ p2_ p3_ w_COMPACT_STRINGS w_LONG w_FLOAT w_DOUBLE w_REFERENCE w_INT h0 n0 _ T46.heap _
          rw [e46']
          exact ⟨rfl, N55⟩
        · obtain ⟨cq78, kq78, q78a, q78b, q78c⟩ := isOf hZ e46' g38_0
          obtain ⟨_, _, ⟨T78, L78, k78, n78⟩, -, X78, ⟨Lc78, hQ78, l78, y78, z78⟩, st78⟩ := X46.virtualBack hx (y := (⟨"com/example/stackweave/stackweave/classfile/VerificationType", "kind", "()Lcom/example/stackweave/stackweave/classfile/ValueKind;"⟩ : MethodName)) (z := (⟨"com/example/stackweave/stackweave/classfile/VerificationType", "kind", "()Lcom/example/stackweave/stackweave/classfile/ValueKind;"⟩ : MethodName)) hown (mvT hZ (hw _ (List.mem_of_getElem? (i := 54) rfl))) (mvT hZ (hw _ (List.mem_of_getElem? (i := 55) rfl))) (notFace_of_selects (args := #[]) (mvT hZ (hw _ (List.mem_of_getElem? (i := 57) rfl)))) (mvT hZ (hw _ (List.mem_of_getElem? (i := 57) rfl))) (mvT hZ (hw _ (List.mem_of_getElem? (i := 56) rfl))) (by decide) (backOf (W := 0) (rmkind14 l Z a0 hw [] b30 p0_ b11 p1_ nnnb1_3_2_21 k1_3_2_21 ((p2_ &&& (255 : Int32)).toInt8.toInt32) w_INT w_FLOAT w_DOUBLE w_LONG w_REFERENCE h38 n0 f54 hq46_2_0 hq46_2_1 hc71 hc75 g38_0 g38_1 g38_2 g38_3 f47 f48 f50 f51 f53 P2 P12 P1 P8 P15 P7 P6 P14 P5 P10 P16 P9 P4 P13 P3) hZ (hw _ (List.mem_of_getElem? (i := 58) rfl)) (hw _ (List.mem_of_getElem? (i := 33) rfl)) (by decide) (by decide)) q78a q78c (g := (mkF m 81 #[.val (.int p0_), .val (.int p1_), .val (.int p2_), .val (.int p3_), .val (.int p0_), .val (.ref b3), .val (.ref b11), .val (.ref b30), .val (.int (0 : Int32)), .unset] [(.ref b30)])) rfl (by rw [hml]; rfl) (Steps.refl _) (argsL := []) (rest := []) (lenOf pd_8 rfl) rfl (by show 2 * 0 + _ ≤ _; exact Nat.le_of_eq rfl) (hb hby at_81) (fun _ _ => ⟨rfl, e46', (by decide : 4 + 0 ≤ _), (by decide : 9 + 0 ≤ _)⟩)
          dsimp only [Pt.U, Pt.locs, Pt.cells, Pt.slots] at X78 l78 y78 z78 st78 hQ78
          subst l78 y78 z78
          obtain ⟨h78, e78⟩ : ∃ z, T78.heap = z := ⟨_, rfl⟩
          rw [e78] at hQ78
          obtain ⟨rr78, rfl, hs78, N78q, hh78⟩ := hQ78
          have N79 := Fr.app N55 N78q
          have e78' : T78.heap = h38 := e78.trans hh78
          rcases hs78 with ⟨rfl, hq78_0_0⟩ | ⟨rfl, hq78_1_0, hq78_1_1⟩ | ⟨rfl, hq78_2_0, hq78_2_1, hq78_2_2⟩ | ⟨rfl, hq78_3_0, hq78_3_1, hq78_3_2, hq78_3_3⟩ | ⟨rfl, hq78_4_0, hq78_4_1, hq78_4_2, hq78_4_3, hq78_4_4⟩ | ⟨rfl, hq78_5_0, hq78_5_1, hq78_5_2, hq78_5_3, hq78_5_4, hq78_5_5⟩
          · obtain ⟨T80, X80, e80, st80⟩ := getS2 X78 hx hZ hown (host := "") (Or.inl (hw _ (List.mem_of_getElem? (i := 62) rfl))) Via.refl e78' (P3.ext f54.2) (g := (mkF m 84 #[.val (.int p0_), .val (.int p1_), .val (.int p2_), .val (.int p3_), .val (.int p0_), .val (.ref b3), .val (.ref b11), .val (.ref b30), .val (.int (0 : Int32)), .unset] [(.ref w_INT)])) rfl (hb hby at_84)
            have ne81 : w_INT ≠ w_REFERENCE := Fld.ne P12 P13 (fun q => absurd (Value.int.inj q) (by decide))
            have pre82 : ∀ t, Steps p.tables e below (T80.setTop (mkF m 117 #[.val (.int p0_), .val (.int p1_), .val (.int p2_), .val (.int p3_), .val (.int p0_), .val (.ref b3), .val (.ref b11), .val (.ref b30), .val (.int (0 : Int32)), .val (.int (0 : Int32))] [(.int (1 : Int32))])) t → Steps p.tables e below (s₁.setTop (entryFrame m #[(.int p0_), (.int p1_), (.int p2_), (.int p3_)] maxLocals)) t := by
              intro t kt
              refine pre74 t ?_
              show Steps p.tables e below (T46.setTop (mkF m 76 #[.val (.int p0_), .val (.int p1_), .val (.int p2_), .val (.int p3_), .val (.int p0_), .val (.ref b3), .val (.ref b11), .val (.ref b30), .val (.int (0 : Int32)), .unset] [(.int (8 : Int32)), (.int p0_)])) _
              refine XS.icmpNo X46.here hx rfl (hb hby at_76) rfl (flt hc75).2.2.1 ?_
              show Steps p.tables e below (T46.setTop (mkF m 79 #[.val (.int p0_), .val (.int p1_), .val (.int p2_), .val (.int p3_), .val (.int p0_), .val (.ref b3), .val (.ref b11), .val (.ref b30), .val (.int (0 : Int32)), .unset] [])) _
              refine XS.aload X46.here hx rfl (hb hby at_79) rfl rfl ?_
              show Steps p.tables e below (T46.setTop (mkF m 81 #[.val (.int p0_), .val (.int p1_), .val (.int p2_), .val (.int p3_), .val (.int p0_), .val (.ref b3), .val (.ref b11), .val (.ref b30), .val (.int (0 : Int32)), .unset] [(.ref b30)])) _
              refine st78.trans ?_
              show Steps p.tables e below (T78.setTop (mkF m 84 #[.val (.int p0_), .val (.int p1_), .val (.int p2_), .val (.int p3_), .val (.int p0_), .val (.ref b3), .val (.ref b11), .val (.ref b30), .val (.int (0 : Int32)), .unset] [(.ref w_INT)])) _
              refine st80 _ ?_
              show Steps p.tables e below (T80.setTop (mkF m 87 #[.val (.int p0_), .val (.int p1_), .val (.int p2_), .val (.int p3_), .val (.int p0_), .val (.ref b3), .val (.ref b11), .val (.ref b30), .val (.int (0 : Int32)), .unset] [(.ref w_REFERENCE), (.ref w_INT)])) _
              refine Jvm.RoadKit.acmp (g := (mkF m 87 #[.val (.int p0_), .val (.int p1_), .val (.int p2_), .val (.int p3_), .val (.int p0_), .val (.ref b3), .val (.ref b11), .val (.ref b30), .val (.int (0 : Int32)), .unset] [(.ref w_REFERENCE), (.ref w_INT)])) X80 hx rfl rfl rfl (pc0 := 87) (pc' := 102) (same := false) rfl (hb hby at_87) rfl (decide_eq_false fun q => ne81 (Value.ref.inj q)) (by decide) (by decide) ?_
              show Steps p.tables e below (T80.setTop (mkF m 102 #[.val (.int p0_), .val (.int p1_), .val (.int p2_), .val (.int p3_), .val (.int p0_), .val (.ref b3), .val (.ref b11), .val (.ref b30), .val (.int (0 : Int32)), .unset] [])) _
              refine XS.iconst X80.here hx rfl (hb hby at_102) ?_
              show Steps p.tables e below (T80.setTop (mkF m 103 #[.val (.int p0_), .val (.int p1_), .val (.int p2_), .val (.int p3_), .val (.int p0_), .val (.ref b3), .val (.ref b11), .val (.ref b30), .val (.int (0 : Int32)), .unset] [(.int (0 : Int32))])) _
              refine XS.istore X80.here hx rfl (hb hby at_103) rfl (l' := #[.val (.int p0_), .val (.int p1_), .val (.int p2_), .val (.int p3_), .val (.int p0_), .val (.ref b3), .val (.ref b11), .val (.ref b30), .val (.int (0 : Int32)), .val (.int (0 : Int32))]) rfl ?_
              show Steps p.tables e below (T80.setTop (mkF m 105 #[.val (.int p0_), .val (.int p1_), .val (.int p2_), .val (.int p3_), .val (.int p0_), .val (.ref b3), .val (.ref b11), .val (.ref b30), .val (.int (0 : Int32)), .val (.int (0 : Int32))] [])) _
              refine XS.iload X80.here hx rfl (hb hby at_105) rfl ?_
              show Steps p.tables e below (T80.setTop (mkF m 107 #[.val (.int p0_), .val (.int p1_), .val (.int p2_), .val (.int p3_), .val (.int p0_), .val (.ref b3), .val (.ref b11), .val (.ref b30), .val (.int (0 : Int32)), .val (.int (0 : Int32))] [(.int (0 : Int32))])) _
              refine XS.iload X80.here hx rfl (hb hby at_107) rfl ?_
              show Steps p.tables e below (T80.setTop (mkF m 109 #[.val (.int p0_), .val (.int p1_), .val (.int p2_), .val (.int p3_), .val (.int p0_), .val (.ref b3), .val (.ref b11), .val (.ref b30), .val (.int (0 : Int32)), .val (.int (0 : Int32))] [(.int (0 : Int32)), (.int (0 : Int32))])) _
              refine XS.icmpNo X80.here hx rfl (hb hby at_109) rfl (teq (by decide : (0 : Int32) = (0 : Int32))).2 ?_
              show Steps p.tables e below (T80.setTop (mkF m 112 #[.val (.int p0_), .val (.int p1_), .val (.int p2_), .val (.int p3_), .val (.int p0_), .val (.ref b3), .val (.ref b11), .val (.ref b30), .val (.int (0 : Int32)), .val (.int (0 : Int32))] [])) _
              refine XS.iconst X80.here hx rfl (hb hby at_112) ?_
              show Steps p.tables e below (T80.setTop (mkF m 113 #[.val (.int p0_), .val (.int p1_), .val (.int p2_), .val (.int p3_), .val (.int p0_), .val (.ref b3), .val (.ref b11), .val (.ref b30), .val (.int (0 : Int32)), .val (.int (0 : Int32))] [(.int (1 : Int32))])) _
              refine XS.goto X80.here hx rfl (pc0 := 113) (pc' := 117) rfl (hb hby at_113) (by decide) (by decide) ?_
              exact kt
            obtain ⟨fs, hr, hrun, hended, hW, hsame⟩ := X80.leave (v := some (.int (1 : Int32))) (fun h => by rw [Bd.returns] at h; cases h)
            refine ⟨_, _, pre82 _ (retN X80 hx (t := .boolean) Bd.returns (by simp) (hb hby at_117) hr), hrun, hended, _, _, rfl, ?_, ⟨_, rfl⟩, hW, hsame.mono (by decide) (by decide)⟩
            show QLaw Z p0_ p1_ p2_ p3_ w_COMPACT_STRINGS w_LONG w_FLOAT w_DOUBLE w_REFERENCE w_INT h0 n0 _ T80.heap _
            rw [e80]
            exact ⟨rfl, N79⟩
          · obtain ⟨T84, X84, e84, st84⟩ := getS2 X78 hx hZ hown (host := "") (Or.inl (hw _ (List.mem_of_getElem? (i := 62) rfl))) Via.refl e78' (P3.ext f54.2) (g := (mkF m 84 #[.val (.int p0_), .val (.int p1_), .val (.int p2_), .val (.int p3_), .val (.int p0_), .val (.ref b3), .val (.ref b11), .val (.ref b30), .val (.int (0 : Int32)), .unset] [(.ref w_FLOAT)])) rfl (hb hby at_84)
            have ne85 : w_FLOAT ≠ w_REFERENCE := Fld.ne P15 P13 (fun q => absurd (Value.int.inj q) (by decide))
            have pre86 : ∀ t, Steps p.tables e below (T84.setTop (mkF m 117 #[.val (.int p0_), .val (.int p1_), .val (.int p2_), .val (.int p3_), .val (.int p0_), .val (.ref b3), .val (.ref b11), .val (.ref b30), .val (.int (0 : Int32)), .val (.int (0 : Int32))] [(.int (1 : Int32))])) t → Steps p.tables e below (s₁.setTop (entryFrame m #[(.int p0_), (.int p1_), (.int p2_), (.int p3_)] maxLocals)) t := by
              intro t kt
              refine pre74 t ?_
              show Steps p.tables e below (T46.setTop (mkF m 76 #[.val (.int p0_), .val (.int p1_), .val (.int p2_), .val (.int p3_), .val (.int p0_), .val (.ref b3), .val (.ref b11), .val (.ref b30), .val (.int (0 : Int32)), .unset] [(.int (8 : Int32)), (.int p0_)])) _
              refine XS.icmpNo X46.here hx rfl (hb hby at_76) rfl (flt hc75).2.2.1 ?_
              show Steps p.tables e below (T46.setTop (mkF m 79 #[.val (.int p0_), .val (.int p1_), .val (.int p2_), .val (.int p3_), .val (.int p0_), .val (.ref b3), .val (.ref b11), .val (.ref b30), .val (.int (0 : Int32)), .unset] [])) _
              refine XS.aload X46.here hx rfl (hb hby at_79) rfl rfl ?_
              show Steps p.tables e below (T46.setTop (mkF m 81 #[.val (.int p0_), .val (.int p1_), .val (.int p2_), .val (.int p3_), .val (.int p0_), .val (.ref b3), .val (.ref b11), .val (.ref b30), .val (.int (0 : Int32)), .unset] [(.ref b30)])) _
              refine st78.trans ?_
              show Steps p.tables e below (T78.setTop (mkF m 84 #[.val (.int p0_), .val (.int p1_), .val (.int p2_), .val (.int p3_), .val (.int p0_), .val (.ref b3), .val (.ref b11), .val (.ref b30), .val (.int (0 : Int32)), .unset] [(.ref w_FLOAT)])) _
              refine st84 _ ?_
              show Steps p.tables e below (T84.setTop (mkF m 87 #[.val (.int p0_), .val (.int p1_), .val (.int p2_), .val (.int p3_), .val (.int p0_), .val (.ref b3), .val (.ref b11), .val (.ref b30), .val (.int (0 : Int32)), .unset] [(.ref w_REFERENCE), (.ref w_FLOAT)])) _
              refine Jvm.RoadKit.acmp (g := (mkF m 87 #[.val (.int p0_), .val (.int p1_), .val (.int p2_), .val (.int p3_), .val (.int p0_), .val (.ref b3), .val (.ref b11), .val (.ref b30), .val (.int (0 : Int32)), .unset] [(.ref w_REFERENCE), (.ref w_FLOAT)])) X84 hx rfl rfl rfl (pc0 := 87) (pc' := 102) (same := false) rfl (hb hby at_87) rfl (decide_eq_false fun q => ne85 (Value.ref.inj q)) (by decide) (by decide) ?_
              show Steps p.tables e below (T84.setTop (mkF m 102 #[.val (.int p0_), .val (.int p1_), .val (.int p2_), .val (.int p3_), .val (.int p0_), .val (.ref b3), .val (.ref b11), .val (.ref b30), .val (.int (0 : Int32)), .unset] [])) _
              refine XS.iconst X84.here hx rfl (hb hby at_102) ?_
              show Steps p.tables e below (T84.setTop (mkF m 103 #[.val (.int p0_), .val (.int p1_), .val (.int p2_), .val (.int p3_), .val (.int p0_), .val (.ref b3), .val (.ref b11), .val (.ref b30), .val (.int (0 : Int32)), .unset] [(.int (0 : Int32))])) _
              refine XS.istore X84.here hx rfl (hb hby at_103) rfl (l' := #[.val (.int p0_), .val (.int p1_), .val (.int p2_), .val (.int p3_), .val (.int p0_), .val (.ref b3), .val (.ref b11), .val (.ref b30), .val (.int (0 : Int32)), .val (.int (0 : Int32))]) rfl ?_
              show Steps p.tables e below (T84.setTop (mkF m 105 #[.val (.int p0_), .val (.int p1_), .val (.int p2_), .val (.int p3_), .val (.int p0_), .val (.ref b3), .val (.ref b11), .val (.ref b30), .val (.int (0 : Int32)), .val (.int (0 : Int32))] [])) _
              refine XS.iload X84.here hx rfl (hb hby at_105) rfl ?_
              show Steps p.tables e below (T84.setTop (mkF m 107 #[.val (.int p0_), .val (.int p1_), .val (.int p2_), .val (.int p3_), .val (.int p0_), .val (.ref b3), .val (.ref b11), .val (.ref b30), .val (.int (0 : Int32)), .val (.int (0 : Int32))] [(.int (0 : Int32))])) _
              refine XS.iload X84.here hx rfl (hb hby at_107) rfl ?_
              show Steps p.tables e below (T84.setTop (mkF m 109 #[.val (.int p0_), .val (.int p1_), .val (.int p2_), .val (.int p3_), .val (.int p0_), .val (.ref b3), .val (.ref b11), .val (.ref b30), .val (.int (0 : Int32)), .val (.int (0 : Int32))] [(.int (0 : Int32)), (.int (0 : Int32))])) _
              refine XS.icmpNo X84.here hx rfl (hb hby at_109) rfl (teq (by decide : (0 : Int32) = (0 : Int32))).2 ?_
              show Steps p.tables e below (T84.setTop (mkF m 112 #[.val (.int p0_), .val (.int p1_), .val (.int p2_), .val (.int p3_), .val (.int p0_), .val (.ref b3), .val (.ref b11), .val (.ref b30), .val (.int (0 : Int32)), .val (.int (0 : Int32))] [])) _
              refine XS.iconst X84.here hx rfl (hb hby at_112) ?_
              show Steps p.tables e below (T84.setTop (mkF m 113 #[.val (.int p0_), .val (.int p1_), .val (.int p2_), .val (.int p3_), .val (.int p0_), .val (.ref b3), .val (.ref b11), .val (.ref b30), .val (.int (0 : Int32)), .val (.int (0 : Int32))] [(.int (1 : Int32))])) _
              refine XS.goto X84.here hx rfl (pc0 := 113) (pc' := 117) rfl (hb hby at_113) (by decide) (by decide) ?_
              exact kt
            obtain ⟨fs, hr, hrun, hended, hW, hsame⟩ := X84.leave (v := some (.int (1 : Int32))) (fun h => by rw [Bd.returns] at h; cases h)
            refine ⟨_, _, pre86 _ (retN X84 hx (t := .boolean) Bd.returns (by simp) (hb hby at_117) hr), hrun, hended, _, _, rfl, ?_, ⟨_, rfl⟩, hW, hsame.mono (by decide) (by decide)⟩
            show QLaw Z p0_ p1_ p2_ p3_ w_COMPACT_STRINGS w_LONG w_FLOAT w_DOUBLE w_REFERENCE w_INT h0 n0 _ T84.heap _
            rw [e84]
            exact ⟨rfl, N79⟩
          · obtain ⟨T88, X88, e88, st88⟩ := getS2 X78 hx hZ hown (host := "") (Or.inl (hw _ (List.mem_of_getElem? (i := 62) rfl))) Via.refl e78' (P3.ext f54.2) (g := (mkF m 84 #[.val (.int p0_), .val (.int p1_), .val (.int p2_), .val (.int p3_), .val (.int p0_), .val (.ref b3), .val (.ref b11), .val (.ref b30), .val (.int (0 : Int32)), .unset] [(.ref w_DOUBLE)])) rfl (hb hby at_84)
            have ne89 : w_DOUBLE ≠ w_REFERENCE := Fld.ne P14 P13 (fun q => absurd (Value.int.inj q) (by decide))
            have pre90 : ∀ t, Steps p.tables e below (T88.setTop (mkF m 117 #[.val (.int p0_), .val (.int p1_), .val (.int p2_), .val (.int p3_), .val (.int p0_), .val (.ref b3), .val (.ref b11), .val (.ref b30), .val (.int (0 : Int32)), .val (.int (0 : Int32))] [(.int (1 : Int32))])) t → Steps p.tables e below (s₁.setTop (entryFrame m #[(.int p0_), (.int p1_), (.int p2_), (.int p3_)] maxLocals)) t := by
              intro t kt
              refine pre74 t ?_
              show Steps p.tables e below (T46.setTop (mkF m 76 #[.val (.int p0_), .val (.int p1_), .val (.int p2_), .val (.int p3_), .val (.int p0_), .val (.ref b3), .val (.ref b11), .val (.ref b30), .val (.int (0 : Int32)), .unset] [(.int (8 : Int32)), (.int p0_)])) _
              refine XS.icmpNo X46.here hx rfl (hb hby at_76) rfl (flt hc75).2.2.1 ?_
              show Steps p.tables e below (T46.setTop (mkF m 79 #[.val (.int p0_), .val (.int p1_), .val (.int p2_), .val (.int p3_), .val (.int p0_), .val (.ref b3), .val (.ref b11), .val (.ref b30), .val (.int (0 : Int32)), .unset] [])) _
              refine XS.aload X46.here hx rfl (hb hby at_79) rfl rfl ?_
              show Steps p.tables e below (T46.setTop (mkF m 81 #[.val (.int p0_), .val (.int p1_), .val (.int p2_), .val (.int p3_), .val (.int p0_), .val (.ref b3), .val (.ref b11), .val (.ref b30), .val (.int (0 : Int32)), .unset] [(.ref b30)])) _
              refine st78.trans ?_
              show Steps p.tables e below (T78.setTop (mkF m 84 #[.val (.int p0_), .val (.int p1_), .val (.int p2_), .val (.int p3_), .val (.int p0_), .val (.ref b3), .val (.ref b11), .val (.ref b30), .val (.int (0 : Int32)), .unset] [(.ref w_DOUBLE)])) _
              refine st88 _ ?_
              show Steps p.tables e below (T88.setTop (mkF m 87 #[.val (.int p0_), .val (.int p1_), .val (.int p2_), .val (.int p3_), .val (.int p0_), .val (.ref b3), .val (.ref b11), .val (.ref b30), .val (.int (0 : Int32)), .unset] [(.ref w_REFERENCE), (.ref w_DOUBLE)])) _
              refine Jvm.RoadKit.acmp (g := (mkF m 87 #[.val (.int p0_), .val (.int p1_), .val (.int p2_), .val (.int p3_), .val (.int p0_), .val (.ref b3), .val (.ref b11), .val (.ref b30), .val (.int (0 : Int32)), .unset] [(.ref w_REFERENCE), (.ref w_DOUBLE)])) X88 hx rfl rfl rfl (pc0 := 87) (pc' := 102) (same := false) rfl (hb hby at_87) rfl (decide_eq_false fun q => ne89 (Value.ref.inj q)) (by decide) (by decide) ?_
              show Steps p.tables e below (T88.setTop (mkF m 102 #[.val (.int p0_), .val (.int p1_), .val (.int p2_), .val (.int p3_), .val (.int p0_), .val (.ref b3), .val (.ref b11), .val (.ref b30), .val (.int (0 : Int32)), .unset] [])) _
              refine XS.iconst X88.here hx rfl (hb hby at_102) ?_
              show Steps p.tables e below (T88.setTop (mkF m 103 #[.val (.int p0_), .val (.int p1_), .val (.int p2_), .val (.int p3_), .val (.int p0_), .val (.ref b3), .val (.ref b11), .val (.ref b30), .val (.int (0 : Int32)), .unset] [(.int (0 : Int32))])) _
              refine XS.istore X88.here hx rfl (hb hby at_103) rfl (l' := #[.val (.int p0_), .val (.int p1_), .val (.int p2_), .val (.int p3_), .val (.int p0_), .val (.ref b3), .val (.ref b11), .val (.ref b30), .val (.int (0 : Int32)), .val (.int (0 : Int32))]) rfl ?_
              show Steps p.tables e below (T88.setTop (mkF m 105 #[.val (.int p0_), .val (.int p1_), .val (.int p2_), .val (.int p3_), .val (.int p0_), .val (.ref b3), .val (.ref b11), .val (.ref b30), .val (.int (0 : Int32)), .val (.int (0 : Int32))] [])) _
              refine XS.iload X88.here hx rfl (hb hby at_105) rfl ?_
              show Steps p.tables e below (T88.setTop (mkF m 107 #[.val (.int p0_), .val (.int p1_), .val (.int p2_), .val (.int p3_), .val (.int p0_), .val (.ref b3), .val (.ref b11), .val (.ref b30), .val (.int (0 : Int32)), .val (.int (0 : Int32))] [(.int (0 : Int32))])) _
              refine XS.iload X88.here hx rfl (hb hby at_107) rfl ?_
              show Steps p.tables e below (T88.setTop (mkF m 109 #[.val (.int p0_), .val (.int p1_), .val (.int p2_), .val (.int p3_), .val (.int p0_), .val (.ref b3), .val (.ref b11), .val (.ref b30), .val (.int (0 : Int32)), .val (.int (0 : Int32))] [(.int (0 : Int32)), (.int (0 : Int32))])) _
              refine XS.icmpNo X88.here hx rfl (hb hby at_109) rfl (teq (by decide : (0 : Int32) = (0 : Int32))).2 ?_
              show Steps p.tables e below (T88.setTop (mkF m 112 #[.val (.int p0_), .val (.int p1_), .val (.int p2_), .val (.int p3_), .val (.int p0_), .val (.ref b3), .val (.ref b11), .val (.ref b30), .val (.int (0 : Int32)), .val (.int (0 : Int32))] [])) _
              refine XS.iconst X88.here hx rfl (hb hby at_112) ?_
              show Steps p.tables e below (T88.setTop (mkF m 113 #[.val (.int p0_), .val (.int p1_), .val (.int p2_), .val (.int p3_), .val (.int p0_), .val (.ref b3), .val (.ref b11), .val (.ref b30), .val (.int (0 : Int32)), .val (.int (0 : Int32))] [(.int (1 : Int32))])) _
              refine XS.goto X88.here hx rfl (pc0 := 113) (pc' := 117) rfl (hb hby at_113) (by decide) (by decide) ?_
              exact kt
            obtain ⟨fs, hr, hrun, hended, hW, hsame⟩ := X88.leave (v := some (.int (1 : Int32))) (fun h => by rw [Bd.returns] at h; cases h)
            refine ⟨_, _, pre90 _ (retN X88 hx (t := .boolean) Bd.returns (by simp) (hb hby at_117) hr), hrun, hended, _, _, rfl, ?_, ⟨_, rfl⟩, hW, hsame.mono (by decide) (by decide)⟩
            show QLaw Z p0_ p1_ p2_ p3_ w_COMPACT_STRINGS w_LONG w_FLOAT w_DOUBLE w_REFERENCE w_INT h0 n0 _ T88.heap _
            rw [e88]
            exact ⟨rfl, N79⟩
          · obtain ⟨T92, X92, e92, st92⟩ := getS2 X78 hx hZ hown (host := "") (Or.inl (hw _ (List.mem_of_getElem? (i := 62) rfl))) Via.refl e78' (P3.ext f54.2) (g := (mkF m 84 #[.val (.int p0_), .val (.int p1_), .val (.int p2_), .val (.int p3_), .val (.int p0_), .val (.ref b3), .val (.ref b11), .val (.ref b30), .val (.int (0 : Int32)), .unset] [(.ref w_LONG)])) rfl (hb hby at_84)
            have ne93 : w_LONG ≠ w_REFERENCE := Fld.ne P16 P13 (fun q => absurd (Value.int.inj q) (by decide))
            have pre94 : ∀ t, Steps p.tables e below (T92.setTop (mkF m 117 #[.val (.int p0_), .val (.int p1_), .val (.int p2_), .val (.int p3_), .val (.int p0_), .val (.ref b3), .val (.ref b11), .val (.ref b30), .val (.int (0 : Int32)), .val (.int (0 : Int32))] [(.int (1 : Int32))])) t → Steps p.tables e below (s₁.setTop (entryFrame m #[(.int p0_), (.int p1_), (.int p2_), (.int p3_)] maxLocals)) t := by
              intro t kt
              refine pre74 t ?_
              show Steps p.tables e below (T46.setTop (mkF m 76 #[.val (.int p0_), .val (.int p1_), .val (.int p2_), .val (.int p3_), .val (.int p0_), .val (.ref b3), .val (.ref b11), .val (.ref b30), .val (.int (0 : Int32)), .unset] [(.int (8 : Int32)), (.int p0_)])) _
              refine XS.icmpNo X46.here hx rfl (hb hby at_76) rfl (flt hc75).2.2.1 ?_
              show Steps p.tables e below (T46.setTop (mkF m 79 #[.val (.int p0_), .val (.int p1_), .val (.int p2_), .val (.int p3_), .val (.int p0_), .val (.ref b3), .val (.ref b11), .val (.ref b30), .val (.int (0 : Int32)), .unset] [])) _
              refine XS.aload X46.here hx rfl (hb hby at_79) rfl rfl ?_
              show Steps p.tables e below (T46.setTop (mkF m 81 #[.val (.int p0_), .val (.int p1_), .val (.int p2_), .val (.int p3_), .val (.int p0_), .val (.ref b3), .val (.ref b11), .val (.ref b30), .val (.int (0 : Int32)), .unset] [(.ref b30)])) _
              refine st78.trans ?_
              show Steps p.tables e below (T78.setTop (mkF m 84 #[.val (.int p0_), .val (.int p1_), .val (.int p2_), .val (.int p3_), .val (.int p0_), .val (.ref b3), .val (.ref b11), .val (.ref b30), .val (.int (0 : Int32)), .unset] [(.ref w_LONG)])) _
              refine st92 _ ?_
              show Steps p.tables e below (T92.setTop (mkF m 87 #[.val (.int p0_), .val (.int p1_), .val (.int p2_), .val (.int p3_), .val (.int p0_), .val (.ref b3), .val (.ref b11), .val (.ref b30), .val (.int (0 : Int32)), .unset] [(.ref w_REFERENCE), (.ref w_LONG)])) _
              refine Jvm.RoadKit.acmp (g := (mkF m 87 #[.val (.int p0_), .val (.int p1_), .val (.int p2_), .val (.int p3_), .val (.int p0_), .val (.ref b3), .val (.ref b11), .val (.ref b30), .val (.int (0 : Int32)), .unset] [(.ref w_REFERENCE), (.ref w_LONG)])) X92 hx rfl rfl rfl (pc0 := 87) (pc' := 102) (same := false) rfl (hb hby at_87) rfl (decide_eq_false fun q => ne93 (Value.ref.inj q)) (by decide) (by decide) ?_
              show Steps p.tables e below (T92.setTop (mkF m 102 #[.val (.int p0_), .val (.int p1_), .val (.int p2_), .val (.int p3_), .val (.int p0_), .val (.ref b3), .val (.ref b11), .val (.ref b30), .val (.int (0 : Int32)), .unset] [])) _
              refine XS.iconst X92.here hx rfl (hb hby at_102) ?_
              show Steps p.tables e below (T92.setTop (mkF m 103 #[.val (.int p0_), .val (.int p1_), .val (.int p2_), .val (.int p3_), .val (.int p0_), .val (.ref b3), .val (.ref b11), .val (.ref b30), .val (.int (0 : Int32)), .unset] [(.int (0 : Int32))])) _
              refine XS.istore X92.here hx rfl (hb hby at_103) rfl (l' := #[.val (.int p0_), .val (.int p1_), .val (.int p2_), .val (.int p3_), .val (.int p0_), .val (.ref b3), .val (.ref b11), .val (.ref b30), .val (.int (0 : Int32)), .val (.int (0 : Int32))]) rfl ?_
              show Steps p.tables e below (T92.setTop (mkF m 105 #[.val (.int p0_), .val (.int p1_), .val (.int p2_), .val (.int p3_), .val (.int p0_), .val (.ref b3), .val (.ref b11), .val (.ref b30), .val (.int (0 : Int32)), .val (.int (0 : Int32))] [])) _
              refine XS.iload X92.here hx rfl (hb hby at_105) rfl ?_
              show Steps p.tables e below (T92.setTop (mkF m 107 #[.val (.int p0_), .val (.int p1_), .val (.int p2_), .val (.int p3_), .val (.int p0_), .val (.ref b3), .val (.ref b11), .val (.ref b30), .val (.int (0 : Int32)), .val (.int (0 : Int32))] [(.int (0 : Int32))])) _
              refine XS.iload X92.here hx rfl (hb hby at_107) rfl ?_
              show Steps p.tables e below (T92.setTop (mkF m 109 #[.val (.int p0_), .val (.int p1_), .val (.int p2_), .val (.int p3_), .val (.int p0_), .val (.ref b3), .val (.ref b11), .val (.ref b30), .val (.int (0 : Int32)), .val (.int (0 : Int32))] [(.int (0 : Int32)), (.int (0 : Int32))])) _
              refine XS.icmpNo X92.here hx rfl (hb hby at_109) rfl (teq (by decide : (0 : Int32) = (0 : Int32))).2 ?_
              show Steps p.tables e below (T92.setTop (mkF m 112 #[.val (.int p0_), .val (.int p1_), .val (.int p2_), .val (.int p3_), .val (.int p0_), .val (.ref b3), .val (.ref b11), .val (.ref b30), .val (.int (0 : Int32)), .val (.int (0 : Int32))] [])) _
              refine XS.iconst X92.here hx rfl (hb hby at_112) ?_
              show Steps p.tables e below (T92.setTop (mkF m 113 #[.val (.int p0_), .val (.int p1_), .val (.int p2_), .val (.int p3_), .val (.int p0_), .val (.ref b3), .val (.ref b11), .val (.ref b30), .val (.int (0 : Int32)), .val (.int (0 : Int32))] [(.int (1 : Int32))])) _
              refine XS.goto X92.here hx rfl (pc0 := 113) (pc' := 117) rfl (hb hby at_113) (by decide) (by decide) ?_
              exact kt
            obtain ⟨fs, hr, hrun, hended, hW, hsame⟩ := X92.leave (v := some (.int (1 : Int32))) (fun h => by rw [Bd.returns] at h; cases h)
            refine ⟨_, _, pre94 _ (retN X92 hx (t := .boolean) Bd.returns (by simp) (hb hby at_117) hr), hrun, hended, _, _, rfl, ?_, ⟨_, rfl⟩, hW, hsame.mono (by decide) (by decide)⟩
            show QLaw Z p0_ p1_ p2_ p3_ w_COMPACT_STRINGS w_LONG w_FLOAT w_DOUBLE w_REFERENCE w_INT h0 n0 _ T92.heap _
            rw [e92]
            exact ⟨rfl, N79⟩
          · obtain ⟨T96, X96, e96, st96⟩ := getS2 X78 hx hZ hown (host := "") (Or.inl (hw _ (List.mem_of_getElem? (i := 62) rfl))) Via.refl e78' (P3.ext f54.2) (g := (mkF m 84 #[.val (.int p0_), .val (.int p1_), .val (.int p2_), .val (.int p3_), .val (.int p0_), .val (.ref b3), .val (.ref b11), .val (.ref b30), .val (.int (0 : Int32)), .unset] [(.ref w_REFERENCE)])) rfl (hb hby at_84)
            obtain ⟨cq97, kq97, q97a, q97b, q97c⟩ := isOf hZ e96 g38_0
            obtain ⟨_, _, ⟨T97, L97, k97, n97⟩, -, X97, ⟨Lc97, hQ97, l97, y97, z97⟩, st97⟩ := X96.virtualBack hx (y := (⟨"com/example/stackweave/stackweave/classfile/VerificationType", "isReference", "()Z"⟩ : MethodName)) (z := (⟨"com/example/stackweave/stackweave/classfile/VerificationType", "isReference", "()Z"⟩ : MethodName)) hown (mvT hZ (hw _ (List.mem_of_getElem? (i := 69) rfl))) (mvT hZ (hw _ (List.mem_of_getElem? (i := 70) rfl))) (notFace_of_selects (args := #[]) (mvT hZ (hw _ (List.mem_of_getElem? (i := 72) rfl)))) (mvT hZ (hw _ (List.mem_of_getElem? (i := 72) rfl))) (mvT hZ (hw _ (List.mem_of_getElem? (i := 71) rfl))) (by decide) (backOf (W := 0) (rmisReference15 l Z a0 hw [] b30 p0_ b11 p1_ nnnb1_3_2_21 k1_3_2_21 ((p2_ &&& (255 : Int32)).toInt8.toInt32) h38 n0 f54 hq46_2_0 hq46_2_1 hc71 hc75 hq78_4_0 hq78_4_1 hq78_4_2 hq78_4_3 hq78_4_4 g38_0 g38_1 g38_2 g38_3 f47 f48 f50 f51 f53) hZ (hw _ (List.mem_of_getElem? (i := 73) rfl)) (hw _ (List.mem_of_getElem? (i := 33) rfl)) (by decide) (by decide)) q97a q97c (g := (mkF m 92 #[.val (.int p0_), .val (.int p1_), .val (.int p2_), .val (.int p3_), .val (.int p0_), .val (.ref b3), .val (.ref b11), .val (.ref b30), .val (.int (0 : Int32)), .unset] [(.ref b30)])) rfl (by rw [hml]; rfl) (Steps.refl _) (argsL := []) (rest := []) (lenOf pd_7 rfl) rfl (by show 2 * 0 + _ ≤ _; exact Nat.le_of_eq rfl) (hb hby at_92) (fun _ _ => ⟨rfl, e96, (by decide : 4 + 0 ≤ _), (by decide : 9 + 0 ≤ _)⟩)
            dsimp only [Pt.U, Pt.locs, Pt.cells, Pt.slots] at X97 l97 y97 z97 st97 hQ97
            subst l97 y97 z97
            obtain ⟨h97, e97⟩ : ∃ z, T97.heap = z := ⟨_, rfl⟩
            rw [e97] at hQ97
            obtain ⟨rfl, N97q, hh97⟩ := hQ97
            have N98 := Fr.app N79 N97q
            have e97' : T97.heap = h38 := e97.trans hh97
            have pre99 : ∀ t, Steps p.tables e below (T97.setTop (mkF m 117 #[.val (.int p0_), .val (.int p1_), .val (.int p2_), .val (.int p3_), .val (.int p0_), .val (.ref b3), .val (.ref b11), .val (.ref b30), .val (.int (0 : Int32)), .val (.int (0 : Int32))] [(.int (1 : Int32))])) t → Steps p.tables e below (s₁.setTop (entryFrame m #[(.int p0_), (.int p1_), (.int p2_), (.int p3_)] maxLocals)) t := by
              intro t kt
              refine pre74 t ?_
              show Steps p.tables e below (T46.setTop (mkF m 76 #[.val (.int p0_), .val (.int p1_), .val (.int p2_), .val (.int p3_), .val (.int p0_), .val (.ref b3), .val (.ref b11), .val (.ref b30), .val (.int (0 : Int32)), .unset] [(.int (8 : Int32)), (.int p0_)])) _
              refine XS.icmpNo X46.here hx rfl (hb hby at_76) rfl (flt hc75).2.2.1 ?_
              show Steps p.tables e below (T46.setTop (mkF m 79 #[.val (.int p0_), .val (.int p1_), .val (.int p2_), .val (.int p3_), .val (.int p0_), .val (.ref b3), .val (.ref b11), .val (.ref b30), .val (.int (0 : Int32)), .unset] [])) _
              refine XS.aload X46.here hx rfl (hb hby at_79) rfl rfl ?_
              show Steps p.tables e below (T46.setTop (mkF m 81 #[.val (.int p0_), .val (.int p1_), .val (.int p2_), .val (.int p3_), .val (.int p0_), .val (.ref b3), .val (.ref b11), .val (.ref b30), .val (.int (0 : Int32)), .unset] [(.ref b30)])) _
              refine st78.trans ?_
              show Steps p.tables e below (T78.setTop (mkF m 84 #[.val (.int p0_), .val (.int p1_), .val (.int p2_), .val (.int p3_), .val (.int p0_), .val (.ref b3), .val (.ref b11), .val (.ref b30), .val (.int (0 : Int32)), .unset] [(.ref w_REFERENCE)])) _
              refine st96 _ ?_
              show Steps p.tables e below (T96.setTop (mkF m 87 #[.val (.int p0_), .val (.int p1_), .val (.int p2_), .val (.int p3_), .val (.int p0_), .val (.ref b3), .val (.ref b11), .val (.ref b30), .val (.int (0 : Int32)), .unset] [(.ref w_REFERENCE), (.ref w_REFERENCE)])) _
              refine Jvm.RoadKit.acmp (g := (mkF m 87 #[.val (.int p0_), .val (.int p1_), .val (.int p2_), .val (.int p3_), .val (.int p0_), .val (.ref b3), .val (.ref b11), .val (.ref b30), .val (.int (0 : Int32)), .unset] [(.ref w_REFERENCE), (.ref w_REFERENCE)])) X96 hx rfl rfl rfl (pc0 := 87) (pc' := 90) (same := true) rfl (hb hby at_87) rfl (decide_eq_true rfl) (by decide) (by decide) ?_
              show Steps p.tables e below (T96.setTop (mkF m 90 #[.val (.int p0_), .val (.int p1_), .val (.int p2_), .val (.int p3_), .val (.int p0_), .val (.ref b3), .val (.ref b11), .val (.ref b30), .val (.int (0 : Int32)), .unset] [])) _
              refine XS.aload X96.here hx rfl (hb hby at_90) rfl rfl ?_
              show Steps p.tables e below (T96.setTop (mkF m 92 #[.val (.int p0_), .val (.int p1_), .val (.int p2_), .val (.int p3_), .val (.int p0_), .val (.ref b3), .val (.ref b11), .val (.ref b30), .val (.int (0 : Int32)), .unset] [(.ref b30)])) _
              refine st97.trans ?_
              show Steps p.tables e below (T97.setTop (mkF m 95 #[.val (.int p0_), .val (.int p1_), .val (.int p2_), .val (.int p3_), .val (.int p0_), .val (.ref b3), .val (.ref b11), .val (.ref b30), .val (.int (0 : Int32)), .unset] [(.int (1 : Int32))])) _
              refine XS.ifYes X97.here hx rfl (pc0 := 95) (pc' := 102) rfl (hb hby at_95) rfl ((if0 _ _).trans (feq (by decide : ¬ ((1 : Int32) = (0 : Int32)))).2) (by decide) (by decide) ?_
              show Steps p.tables e below (T97.setTop (mkF m 102 #[.val (.int p0_), .val (.int p1_), .val (.int p2_), .val (.int p3_), .val (.int p0_), .val (.ref b3), .val (.ref b11), .val (.ref b30), .val (.int (0 : Int32)), .unset] [])) _
              refine XS.iconst X97.here hx rfl (hb hby at_102) ?_
              show Steps p.tables e below (T97.setTop (mkF m 103 #[.val (.int p0_), .val (.int p1_), .val (.int p2_), .val (.int p3_), .val (.int p0_), .val (.ref b3), .val (.ref b11), .val (.ref b30), .val (.int (0 : Int32)), .unset] [(.int (0 : Int32))])) _
              refine XS.istore X97.here hx rfl (hb hby at_103) rfl (l' := #[.val (.int p0_), .val (.int p1_), .val (.int p2_), .val (.int p3_), .val (.int p0_), .val (.ref b3), .val (.ref b11), .val (.ref b30), .val (.int (0 : Int32)), .val (.int (0 : Int32))]) rfl ?_
              show Steps p.tables e below (T97.setTop (mkF m 105 #[.val (.int p0_), .val (.int p1_), .val (.int p2_), .val (.int p3_), .val (.int p0_), .val (.ref b3), .val (.ref b11), .val (.ref b30), .val (.int (0 : Int32)), .val (.int (0 : Int32))] [])) _
              refine XS.iload X97.here hx rfl (hb hby at_105) rfl ?_
              show Steps p.tables e below (T97.setTop (mkF m 107 #[.val (.int p0_), .val (.int p1_), .val (.int p2_), .val (.int p3_), .val (.int p0_), .val (.ref b3), .val (.ref b11), .val (.ref b30), .val (.int (0 : Int32)), .val (.int (0 : Int32))] [(.int (0 : Int32))])) _
              refine XS.iload X97.here hx rfl (hb hby at_107) rfl ?_
              show Steps p.tables e below (T97.setTop (mkF m 109 #[.val (.int p0_), .val (.int p1_), .val (.int p2_), .val (.int p3_), .val (.int p0_), .val (.ref b3), .val (.ref b11), .val (.ref b30), .val (.int (0 : Int32)), .val (.int (0 : Int32))] [(.int (0 : Int32)), (.int (0 : Int32))])) _
              refine XS.icmpNo X97.here hx rfl (hb hby at_109) rfl (teq (by decide : (0 : Int32) = (0 : Int32))).2 ?_
              show Steps p.tables e below (T97.setTop (mkF m 112 #[.val (.int p0_), .val (.int p1_), .val (.int p2_), .val (.int p3_), .val (.int p0_), .val (.ref b3), .val (.ref b11), .val (.ref b30), .val (.int (0 : Int32)), .val (.int (0 : Int32))] [])) _
              refine XS.iconst X97.here hx rfl (hb hby at_112) ?_
              show Steps p.tables e below (T97.setTop (mkF m 113 #[.val (.int p0_), .val (.int p1_), .val (.int p2_), .val (.int p3_), .val (.int p0_), .val (.ref b3), .val (.ref b11), .val (.ref b30), .val (.int (0 : Int32)), .val (.int (0 : Int32))] [(.int (1 : Int32))])) _
              refine XS.goto X97.here hx rfl (pc0 := 113) (pc' := 117) rfl (hb hby at_113) (by decide) (by decide) ?_
              exact kt
            obtain ⟨fs, hr, hrun, hended, hW, hsame⟩ := X97.leave (v := some (.int (1 : Int32))) (fun h => by rw [Bd.returns] at h; cases h)
            refine ⟨_, _, pre99 _ (retN X97 hx (t := .boolean) Bd.returns (by simp) (hb hby at_117) hr), hrun, hended, _, _, rfl, ?_, ⟨_, rfl⟩, hW, hsame.mono (by decide) (by decide)⟩
            show QLaw Z p0_ p1_ p2_ p3_ w_COMPACT_STRINGS w_LONG w_FLOAT w_DOUBLE w_REFERENCE w_INT h0 n0 _ T97.heap _
            rw [e97']
            exact ⟨rfl, N98⟩
          · obtain ⟨T101, X101, e101, st101⟩ := getS2 X78 hx hZ hown (host := "") (Or.inl (hw _ (List.mem_of_getElem? (i := 62) rfl))) Via.refl e78' (P3.ext f54.2) (g := (mkF m 84 #[.val (.int p0_), .val (.int p1_), .val (.int p2_), .val (.int p3_), .val (.int p0_), .val (.ref b3), .val (.ref b11), .val (.ref b30), .val (.int (0 : Int32)), .unset] [(.ref w_REFERENCE)])) rfl (hb hby at_84)
            obtain ⟨cq102, kq102, q102a, q102b, q102c⟩ := isOf hZ e101 g38_0
            obtain ⟨_, _, ⟨T102, L102, k102, n102⟩, -, X102, ⟨Lc102, hQ102, l102, y102, z102⟩, st102⟩ := X101.virtualBack hx (y := (⟨"com/example/stackweave/stackweave/classfile/VerificationType", "isReference", "()Z"⟩ : MethodName)) (z := (⟨"com/example/stackweave/stackweave/classfile/VerificationType", "isReference", "()Z"⟩ : MethodName)) hown (mvT hZ (hw _ (List.mem_of_getElem? (i := 69) rfl))) (mvT hZ (hw _ (List.mem_of_getElem? (i := 70) rfl))) (notFace_of_selects (args := #[]) (mvT hZ (hw _ (List.mem_of_getElem? (i := 72) rfl)))) (mvT hZ (hw _ (List.mem_of_getElem? (i := 72) rfl))) (mvT hZ (hw _ (List.mem_of_getElem? (i := 71) rfl))) (by decide) (backOf (W := 0) (rmisReference16 l Z a0 hw [] b30 p0_ b11 p1_ nnnb1_3_2_21 k1_3_2_21 ((p2_ &&& (255 : Int32)).toInt8.toInt32) h38 n0 f54 hq46_2_0 hq46_2_1 hc71 hc75 hq78_5_0 hq78_5_1 hq78_5_2 hq78_5_3 hq78_5_4 hq78_5_5 g38_0 g38_1 g38_2 g38_3 f47 f48 f50 f51 f53) hZ (hw _ (List.mem_of_getElem? (i := 73) rfl)) (hw _ (List.mem_of_getElem? (i := 33) rfl)) (by decide) (by decide)) q102a q102c (g := (mkF m 92 #[.val (.int p0_), .val (.int p1_), .val (.int p2_), .val (.int p3_), .val (.int p0_), .val (.ref b3), .val (.ref b11), .val (.ref b30), .val (.int (0 : Int32)), .unset] [(.ref b30)])) rfl (by rw [hml]; rfl) (Steps.refl _) (argsL := []) (rest := []) (lenOf pd_7 rfl) rfl (by show 2 * 0 + _ ≤ _; exact Nat.le_of_eq rfl) (hb hby at_92) (fun _ _ => ⟨rfl, e101, (by decide : 4 + 0 ≤ _), (by decide : 9 + 0 ≤ _)⟩)
            dsimp only [Pt.U, Pt.locs, Pt.cells, Pt.slots] at X102 l102 y102 z102 st102 hQ102
            subst l102 y102 z102
            obtain ⟨h102, e102⟩ : ∃ z, T102.heap = z := ⟨_, rfl⟩
            rw [e102] at hQ102
            obtain ⟨rfl, N102q, hh102⟩ := hQ102
            have N103 := Fr.app N79 N102q
            have e102' : T102.heap = h38 := e102.trans hh102
            have pre104 : ∀ t, Steps p.tables e below (T102.setTop (mkF m 117 #[.val (.int p0_), .val (.int p1_), .val (.int p2_), .val (.int p3_), .val (.int p0_), .val (.ref b3), .val (.ref b11), .val (.ref b30), .val (.int (0 : Int32)), .val (.int (0 : Int32))] [(.int (1 : Int32))])) t → Steps p.tables e below (s₁.setTop (entryFrame m #[(.int p0_), (.int p1_), (.int p2_), (.int p3_)] maxLocals)) t := by
              intro t kt
              refine pre74 t ?_
              show Steps p.tables e below (T46.setTop (mkF m 76 #[.val (.int p0_), .val (.int p1_), .val (.int p2_), .val (.int p3_), .val (.int p0_), .val (.ref b3), .val (.ref b11), .val (.ref b30), .val (.int (0 : Int32)), .unset] [(.int (8 : Int32)), (.int p0_)])) _
              refine XS.icmpNo X46.here hx rfl (hb hby at_76) rfl (flt hc75).2.2.1 ?_
              show Steps p.tables e below (T46.setTop (mkF m 79 #[.val (.int p0_), .val (.int p1_), .val (.int p2_), .val (.int p3_), .val (.int p0_), .val (.ref b3), .val (.ref b11), .val (.ref b30), .val (.int (0 : Int32)), .unset] [])) _
              refine XS.aload X46.here hx rfl (hb hby at_79) rfl rfl ?_
              show Steps p.tables e below (T46.setTop (mkF m 81 #[.val (.int p0_), .val (.int p1_), .val (.int p2_), .val (.int p3_), .val (.int p0_), .val (.ref b3), .val (.ref b11), .val (.ref b30), .val (.int (0 : Int32)), .unset] [(.ref b30)])) _
              refine st78.trans ?_
              show Steps p.tables e below (T78.setTop (mkF m 84 #[.val (.int p0_), .val (.int p1_), .val (.int p2_), .val (.int p3_), .val (.int p0_), .val (.ref b3), .val (.ref b11), .val (.ref b30), .val (.int (0 : Int32)), .unset] [(.ref w_REFERENCE)])) _
              refine st101 _ ?_
              show Steps p.tables e below (T101.setTop (mkF m 87 #[.val (.int p0_), .val (.int p1_), .val (.int p2_), .val (.int p3_), .val (.int p0_), .val (.ref b3), .val (.ref b11), .val (.ref b30), .val (.int (0 : Int32)), .unset] [(.ref w_REFERENCE), (.ref w_REFERENCE)])) _
              refine Jvm.RoadKit.acmp (g := (mkF m 87 #[.val (.int p0_), .val (.int p1_), .val (.int p2_), .val (.int p3_), .val (.int p0_), .val (.ref b3), .val (.ref b11), .val (.ref b30), .val (.int (0 : Int32)), .unset] [(.ref w_REFERENCE), (.ref w_REFERENCE)])) X101 hx rfl rfl rfl (pc0 := 87) (pc' := 90) (same := true) rfl (hb hby at_87) rfl (decide_eq_true rfl) (by decide) (by decide) ?_
              show Steps p.tables e below (T101.setTop (mkF m 90 #[.val (.int p0_), .val (.int p1_), .val (.int p2_), .val (.int p3_), .val (.int p0_), .val (.ref b3), .val (.ref b11), .val (.ref b30), .val (.int (0 : Int32)), .unset] [])) _
              refine XS.aload X101.here hx rfl (hb hby at_90) rfl rfl ?_
              show Steps p.tables e below (T101.setTop (mkF m 92 #[.val (.int p0_), .val (.int p1_), .val (.int p2_), .val (.int p3_), .val (.int p0_), .val (.ref b3), .val (.ref b11), .val (.ref b30), .val (.int (0 : Int32)), .unset] [(.ref b30)])) _
              refine st102.trans ?_
              show Steps p.tables e below (T102.setTop (mkF m 95 #[.val (.int p0_), .val (.int p1_), .val (.int p2_), .val (.int p3_), .val (.int p0_), .val (.ref b3), .val (.ref b11), .val (.ref b30), .val (.int (0 : Int32)), .unset] [(.int (1 : Int32))])) _
              refine XS.ifYes X102.here hx rfl (pc0 := 95) (pc' := 102) rfl (hb hby at_95) rfl ((if0 _ _).trans (feq (by decide : ¬ ((1 : Int32) = (0 : Int32)))).2) (by decide) (by decide) ?_
              show Steps p.tables e below (T102.setTop (mkF m 102 #[.val (.int p0_), .val (.int p1_), .val (.int p2_), .val (.int p3_), .val (.int p0_), .val (.ref b3), .val (.ref b11), .val (.ref b30), .val (.int (0 : Int32)), .unset] [])) _
              refine XS.iconst X102.here hx rfl (hb hby at_102) ?_
              show Steps p.tables e below (T102.setTop (mkF m 103 #[.val (.int p0_), .val (.int p1_), .val (.int p2_), .val (.int p3_), .val (.int p0_), .val (.ref b3), .val (.ref b11), .val (.ref b30), .val (.int (0 : Int32)), .unset] [(.int (0 : Int32))])) _
              refine XS.istore X102.here hx rfl (hb hby at_103) rfl (l' := #[.val (.int p0_), .val (.int p1_), .val (.int p2_), .val (.int p3_), .val (.int p0_), .val (.ref b3), .val (.ref b11), .val (.ref b30), .val (.int (0 : Int32)), .val (.int (0 : Int32))]) rfl ?_
              show Steps p.tables e below (T102.setTop (mkF m 105 #[.val (.int p0_), .val (.int p1_), .val (.int p2_), .val (.int p3_), .val (.int p0_), .val (.ref b3), .val (.ref b11), .val (.ref b30), .val (.int (0 : Int32)), .val (.int (0 : Int32))] [])) _
              refine XS.iload X102.here hx rfl (hb hby at_105) rfl ?_
              show Steps p.tables e below (T102.setTop (mkF m 107 #[.val (.int p0_), .val (.int p1_), .val (.int p2_), .val (.int p3_), .val (.int p0_), .val (.ref b3), .val (.ref b11), .val (.ref b30), .val (.int (0 : Int32)), .val (.int (0 : Int32))] [(.int (0 : Int32))])) _
              refine XS.iload X102.here hx rfl (hb hby at_107) rfl ?_
              show Steps p.tables e below (T102.setTop (mkF m 109 #[.val (.int p0_), .val (.int p1_), .val (.int p2_), .val (.int p3_), .val (.int p0_), .val (.ref b3), .val (.ref b11), .val (.ref b30), .val (.int (0 : Int32)), .val (.int (0 : Int32))] [(.int (0 : Int32)), (.int (0 : Int32))])) _
              refine XS.icmpNo X102.here hx rfl (hb hby at_109) rfl (teq (by decide : (0 : Int32) = (0 : Int32))).2 ?_
              show Steps p.tables e below (T102.setTop (mkF m 112 #[.val (.int p0_), .val (.int p1_), .val (.int p2_), .val (.int p3_), .val (.int p0_), .val (.ref b3), .val (.ref b11), .val (.ref b30), .val (.int (0 : Int32)), .val (.int (0 : Int32))] [])) _
              refine XS.iconst X102.here hx rfl (hb hby at_112) ?_
              show Steps p.tables e below (T102.setTop (mkF m 113 #[.val (.int p0_), .val (.int p1_), .val (.int p2_), .val (.int p3_), .val (.int p0_), .val (.ref b3), .val (.ref b11), .val (.ref b30), .val (.int (0 : Int32)), .val (.int (0 : Int32))] [(.int (1 : Int32))])) _
              refine XS.goto X102.here hx rfl (pc0 := 113) (pc' := 117) rfl (hb hby at_113) (by decide) (by decide) ?_
              exact kt
            obtain ⟨fs, hr, hrun, hended, hW, hsame⟩ := X102.leave (v := some (.int (1 : Int32))) (fun h => by rw [Bd.returns] at h; cases h)
            refine ⟨_, _, pre104 _ (retN X102 hx (t := .boolean) Bd.returns (by simp) (hb hby at_117) hr), hrun, hended, _, _, rfl, ?_, ⟨_, rfl⟩, hW, hsame.mono (by decide) (by decide)⟩
            show QLaw Z p0_ p1_ p2_ p3_ w_COMPACT_STRINGS w_LONG w_FLOAT w_DOUBLE w_REFERENCE w_INT h0 n0 _ T102.heap _
            rw [e102']
            exact ⟨rfl, N103⟩
  · obtain ⟨T106, h106, k106, X106, e106, E106, A106, Z106, st106⟩ := newPE X0 hx hZ (hw _ (List.mem_of_getElem? (i := 1) rfl)) e0 (g := (mkF m 20 #[.val (.int p0_), .val (.int p1_), .val (.int p2_), .val (.int p3_), .val (.int ((p0_ &&& (2147483647 : Int32)) % (9 : Int32))), .unset, .unset, .unset, .unset, .unset] [(.int (1 : Int32))])) rfl (hb hby at_20) rfl (by decide) (cap := 1) (by decide) (by decide) (by decide) (by decide) (ad := "[C") (by decide)
    obtain ⟨b106, g106⟩ : ∃ z, z = h0.size := ⟨_, rfl⟩
    rw [← g106] at A106 Z106 st106
    have ge107 : n0 ≤ b106 := Nat.le_trans (Nat.le_trans (Nat.le_of_eq O0.1.symm) O0.2.1) (Nat.le_of_eq g106.symm)
    have sz108 : h0.size ≤ b106 := Nat.le_trans K0.1 (Nat.le_of_eq g106.symm)
    have f109 : Arv Z h106 b106 k106 .char (1 : Int32) [(.int (0 : Int32))] (.int (0 : Int32)) := (Arv.new A106 (by decide)).pad (pad_rep [] (.int (0 : Int32)) 1)
    obtain ⟨c110, r110, q110, s110, z110, y110, G110⟩ := id f109
    have hin110 : ¬ ((0 : Int32) < 0 ∨ c110.slots.size ≤ ((0 : Int32)).toNatClampNeg) := inb_of s110 ⟨by decide, by decide⟩
    obtain ⟨T110, h110, X110, e110, W110, st110⟩ := stC X106 hx hZ e106 r110 (j := (0 : Int32)) hin110 (g := (mkF m 33 #[.val (.int p0_), .val (.int p1_), .val (.int p2_), .val (.int p3_), .val (.int ((p0_ &&& (2147483647 : Int32)) % (9 : Int32))), .val (.ref b106), .unset, .unset, .unset, .unset] [(.int (p2_ &&& (255 : Int32))), (.int (0 : Int32)), (.ref b106)])) rfl rfl (hb hby at_33)
    have N111 := Fr.snoc X110 N0 ge107
    have f112 : Arv Z h110 b106 k106 .char (1 : Int32) [(.int ((p2_ &&& (255 : Int32)).toUInt32.toUInt16.toUInt32.toInt32))] (.int (0 : Int32)) := Arv.set r110 q110 s110 z110 y110 G110 (fits_nar_char _) W110 0 rfl (Nat.le_of_ble_eq_true rfl)
    have f113 : Arv Z h110 b106 k106 .char (1 : Int32) [(.int (p2_ &&& (255 : Int32)))] (.int (0 : Int32)) := by have q := f112; rw [i2c_mask] at q; exact q
    obtain ⟨T114, h114, X114, e114, E114, A114, D114, -, st114⟩ := newO X110 hx hZ hown (hw _ (List.mem_of_getElem? (i := 2) rfl)) (hw _ (List.mem_of_getElem? (i := 3) rfl)) (hw _ (List.mem_of_getElem? (i := 4) rfl)) e110 (g := (mkF m 34 #[.val (.int p0_), .val (.int p1_), .val (.int p2_), .val (.int p3_), .val (.int ((p0_ &&& (2147483647 : Int32)) % (9 : Int32))), .val (.ref b106), .unset, .unset, .unset, .unset] [])) rfl (hb hby at_34) (by decide) (by decide)
    obtain ⟨b114, g114⟩ : ∃ z, z = h110.size := ⟨_, rfl⟩
    rw [← g114] at A114 D114 st114
    have f115 : Old Z n0 h106 := O0.ext E106
    have f116 : Old Z n0 h110 := f115.wr W110 ge107
    have ge117 : n0 ≤ b114 := Nat.le_trans (Nat.le_trans (Nat.le_of_eq f116.1.symm) f116.2.1) (Nat.le_of_eq g114.symm)
    have f118 : Keep h0 h106 [] := K0.ext E106
    have f119 : Keep h0 h110 [] := f118.wr W110 (Or.inr sz108)
    have sz120 : h0.size ≤ b114 := Nat.le_trans f119.1 (Nat.le_of_eq g114.symm)
    have f121 : Fld Z h114 b114 "java/lang/String" "coder" "B" (.int (0 : Int32)) := D114 (Or.inr (hw _ (List.mem_of_getElem? (i := 28) rfl))) (ty := .byte) (by decide)
    have f122 : Fld Z h114 b114 "java/lang/String" "value" "[B" .null := D114 (Or.inr (hw _ (List.mem_of_getElem? (i := 30) rfl))) (ty := (.array .byte)) (by decide)
    have hn123 : ¬ ((255 : Int32) < (p2_ &&& (255 : Int32))) := own_le255 _
    have f125 : Arv Z h114 b106 k106 .char (1 : Int32) [(.int (p2_ &&& (255 : Int32)))] (.int (0 : Int32)) := f113.ext E114
    have f126 : Exa Z h110 b106 "[C" := Z106.wr W110
    have f127 : Exa Z h114 b106 "[C" := f126.ext E114
    have f128 : Old Z n0 h114 := f116.ext E114
    obtain ⟨_, _, ⟨T124, L124, k124, n124⟩, -, X124, ⟨Lc124, hQ124, l124, y124, z124⟩, st124⟩ := X114.specialBack hx (y := (⟨"java/lang/String", "<init>", "([C)V"⟩ : MethodName)) rfl hown (mvT hZ (hw _ (List.mem_of_getElem? (i := 5) rfl))) (mvT hZ (hw _ (List.mem_of_getElem? (i := 6) rfl))) (mvT hZ (hw _ (List.mem_of_getElem? (i := 7) rfl))) (by decide) (backOf (W := 1) (rminit1 l Z a0 hw [] b114 b106 k106 (p2_ &&& (255 : Int32)) w_COMPACT_STRINGS h114 n0 f128 hn123 A114 f121 f122 f125 f127 hz_0 P11 ge117) hZ (hw _ (List.mem_of_getElem? (i := 7) rfl)) (hw _ (List.mem_of_getElem? (i := 4) rfl)) (by decide) (by decide)) (g := (mkF m 40 #[.val (.int p0_), .val (.int p1_), .val (.int p2_), .val (.int p3_), .val (.int ((p0_ &&& (2147483647 : Int32)) % (9 : Int32))), .val (.ref b106), .unset, .unset, .unset, .unset] [(.ref b106), (.ref b114), (.ref b114)])) rfl (by rw [hml]; rfl) (Steps.refl _) (a := b114) (argsL := [(.ref b106)]) (rest := [(.ref b114)]) (lenOf pd_4 rfl) rfl (by show 2 * 0 + _ ≤ _; exact Nat.le_of_eq rfl) (hb hby at_40) (fun _ _ => ⟨rfl, e114, (by decide : 2 + 1 ≤ _), (by decide : 5 + 1 ≤ _)⟩)
    dsimp only [Pt.U, Pt.locs, Pt.cells, Pt.slots] at X124 l124 y124 z124 st124 hQ124
    subst l124 y124 z124
    obtain ⟨h124, e124⟩ : ∃ z, T124.heap = z := ⟨_, rfl⟩
    rw [e124] at hQ124
    obtain ⟨k1_3_2_124, nnnb1_3_2_124, rfl, N124q, K124, sznnnb1_3_2_124, g124_0, g124_1, g124_2, g124_3, g124_4⟩ := hQ124
    have N129 := Fr.app N111 N124q
    have ge130 : n0 ≤ nnnb1_3_2_124 := Nat.le_trans (Nat.le_trans (Nat.le_of_eq f128.1.symm) f128.2.1) sznnnb1_3_2_124
    have f131 : Keep h0 h114 [] := f119.ext E114
    have sz132 : h0.size ≤ nnnb1_3_2_124 := Nat.le_trans f131.1 sznnnb1_3_2_124
    obtain ⟨T133, h133, X133, e133, E133, A133, D133, -, st133⟩ := newO X124 hx hZ hown (hw _ (List.mem_of_getElem? (i := 31) rfl)) (hw _ (List.mem_of_getElem? (i := 32) rfl)) (hw _ (List.mem_of_getElem? (i := 33) rfl)) e124 (g := (mkF m 45 #[.val (.int p0_), .val (.int p1_), .val (.int p2_), .val (.int p3_), .val (.int ((p0_ &&& (2147483647 : Int32)) % (9 : Int32))), .val (.ref b106), .val (.ref b114), .unset, .unset, .unset] [])) rfl (hb hby at_45) (by decide) (by decide)
    obtain ⟨b133, g133⟩ : ∃ z, z = h124.size := ⟨_, rfl⟩
    rw [← g133] at A133 D133 st133
    have f134 : Old Z n0 h124 := f128.keep K124 (allS (ge117) all0)
    have ge135 : n0 ≤ b133 := Nat.le_trans (Nat.le_trans (Nat.le_of_eq f134.1.symm) f134.2.1) (Nat.le_of_eq g133.symm)
    have f136 : Keep h0 h124 [] := f131.trans K124 (allS (Or.inr sz120) all0)
    have sz137 : h0.size ≤ b133 := Nat.le_trans f136.1 (Nat.le_of_eq g133.symm)
    have f138 : Fld Z h133 b133 "com/example/stackweave/stackweave/classfile/VerificationType" "tag" "I" (.int (0 : Int32)) := D133 (Or.inr (hw _ (List.mem_of_getElem? (i := 44) rfl))) (ty := .int) (by decide)
    have f139 : Fld Z h133 b133 "com/example/stackweave/stackweave/classfile/VerificationType" "className" "Ljava/lang/String;" .null := D133 (Or.inr (hw _ (List.mem_of_getElem? (i := 46) rfl))) (ty := (.object "java/lang/String")) (by decide)
    have f140 : Fld Z h133 b133 "com/example/stackweave/stackweave/classfile/VerificationType" "newOffset" "I" (.int (0 : Int32)) := D133 (Or.inr (hw _ (List.mem_of_getElem? (i := 48) rfl))) (ty := .int) (by decide)
    have f142 : Exa Z h133 b114 "java/lang/String" := g124_0.ext E133
    have f143 : Fld Z h133 b114 "java/lang/String" "coder" "B" (.int (0 : Int32)) := g124_1.ext E133
    have f144 : Fld Z h133 b114 "java/lang/String" "value" "[B" (.ref nnnb1_3_2_124) := g124_2.ext E133
    have f145 : Arv Z h133 nnnb1_3_2_124 k1_3_2_124 .byte (1 : Int32) [(.int ((p2_ &&& (255 : Int32)).toInt8.toInt32))] (.int (0 : Int32)) := g124_3.ext E133
    have f146 : Exa Z h133 nnnb1_3_2_124 "[B" := g124_4.ext E133
    have f147 : Old Z n0 h133 := f134.ext E133
    obtain ⟨_, _, ⟨T141, L141, k141, n141⟩, -, X141, ⟨Lc141, hQ141, l141, y141, z141⟩, st141⟩ := X133.specialBack hx (y := (⟨"com/example/stackweave/stackweave/classfile/VerificationType", "<init>", "(ILjava/lang/String;I)V"⟩ : MethodName)) rfl hown (mvT hZ (hw _ (List.mem_of_getElem? (i := 34) rfl))) (mvT hZ (hw _ (List.mem_of_getElem? (i := 35) rfl))) (mvT hZ (hw _ (List.mem_of_getElem? (i := 36) rfl))) (by decide) (backOf (W := 1) (rminit7 l Z a0 hw [] b133 ((p0_ &&& (2147483647 : Int32)) % (9 : Int32)) b114 p1_ nnnb1_3_2_124 k1_3_2_124 ((p2_ &&& (255 : Int32)).toInt8.toInt32) h133 n0 f147 A133 f138 f139 f140 f142 f143 f144 f145 f146 ge135) hZ (hw _ (List.mem_of_getElem? (i := 36) rfl)) (hw _ (List.mem_of_getElem? (i := 33) rfl)) (by decide) (by decide)) (g := (mkF m 54 #[.val (.int p0_), .val (.int p1_), .val (.int p2_), .val (.int p3_), .val (.int ((p0_ &&& (2147483647 : Int32)) % (9 : Int32))), .val (.ref b106), .val (.ref b114), .unset, .unset, .unset] [(.int p1_), (.ref b114), (.int ((p0_ &&& (2147483647 : Int32)) % (9 : Int32))), (.ref b133), (.ref b133)])) rfl (by rw [hml]; rfl) (Steps.refl _) (a := b133) (argsL := [(.int ((p0_ &&& (2147483647 : Int32)) % (9 : Int32))), (.ref b114), (.int p1_)]) (rest := [(.ref b133)]) (lenOf pd_6 rfl) rfl (by show 2 * 0 + _ ≤ _; exact Nat.le_of_eq rfl) (hb hby at_54) (fun _ _ => ⟨rfl, e133, (by decide : 4 + 0 ≤ _), (by decide : 9 + 0 ≤ _)⟩)
    dsimp only [Pt.U, Pt.locs, Pt.cells, Pt.slots] at X141 l141 y141 z141 st141 hQ141
    subst l141 y141 z141
    obtain ⟨h141, e141⟩ : ∃ z, T141.heap = z := ⟨_, rfl⟩
    rw [e141] at hQ141
    obtain ⟨rfl, N141q, K141, g141_0, g141_1, g141_2, g141_3⟩ := hQ141
    have N148 := Fr.app N129 N141q
    have f150 : Exa Z h141 b114 "java/lang/String" := f142.keep K141
    have ne152 : b114 ≠ b133 := Nat.ne_of_lt (Nat.lt_of_lt_of_le g124_0.lt (Nat.le_of_eq g133.symm))
    have f151 : Fld Z h141 b114 "java/lang/String" "coder" "B" (.int (0 : Int32)) := f143.keep K141 (ninS ne152 nin0)
    have f153 : Fld Z h141 b114 "java/lang/String" "value" "[B" (.ref nnnb1_3_2_124) := f144.keep K141 (ninS ne152 nin0)
    have ne155 : nnnb1_3_2_124 ≠ b133 := Nat.ne_of_lt (Nat.lt_of_lt_of_le g124_3.lt (Nat.le_of_eq g133.symm))
    have f154 : Arv Z h141 nnnb1_3_2_124 k1_3_2_124 .byte (1 : Int32) [(.int ((p2_ &&& (255 : Int32)).toInt8.toInt32))] (.int (0 : Int32)) := f145.keep K141 (ninS ne155 nin0)
    have f156 : Exa Z h141 nnnb1_3_2_124 "[B" := f146.keep K141
    have f157 : Old Z n0 h141 := f147.keep K141 (allS (ge135) all0)
    obtain ⟨cq149, kq149, q149a, q149b, q149c⟩ := isOf hZ e141 g141_0
    obtain ⟨_, _, ⟨T149, L149, k149, n149⟩, -, X149, ⟨Lc149, hQ149, l149, y149, z149⟩, st149⟩ := X141.virtualBack hx (y := (⟨"com/example/stackweave/stackweave/classfile/VerificationType", "isUninitialized", "()Z"⟩ : MethodName)) (z := (⟨"com/example/stackweave/stackweave/classfile/VerificationType", "isUninitialized", "()Z"⟩ : MethodName)) hown (mvT hZ (hw _ (List.mem_of_getElem? (i := 49) rfl))) (mvT hZ (hw _ (List.mem_of_getElem? (i := 50) rfl))) (notFace_of_selects (args := #[]) (mvT hZ (hw _ (List.mem_of_getElem? (i := 52) rfl)))) (mvT hZ (hw _ (List.mem_of_getElem? (i := 52) rfl))) (mvT hZ (hw _ (List.mem_of_getElem? (i := 51) rfl))) (by decide) (backOf (W := 0) (rmisUninitialized9 l Z a0 hw [] b133 ((p0_ &&& (2147483647 : Int32)) % (9 : Int32)) b114 p1_ nnnb1_3_2_124 k1_3_2_124 ((p2_ &&& (255 : Int32)).toInt8.toInt32) h141 n0 f157 g141_0 g141_1 g141_2 g141_3 f150 f151 f153 f154 f156) hZ (hw _ (List.mem_of_getElem? (i := 53) rfl)) (hw _ (List.mem_of_getElem? (i := 33) rfl)) (by decide) (by decide)) q149a q149c (g := (mkF m 61 #[.val (.int p0_), .val (.int p1_), .val (.int p2_), .val (.int p3_), .val (.int ((p0_ &&& (2147483647 : Int32)) % (9 : Int32))), .val (.ref b106), .val (.ref b114), .val (.ref b133), .unset, .unset] [(.ref b133)])) rfl (by rw [hml]; rfl) (Steps.refl _) (argsL := []) (rest := []) (lenOf pd_7 rfl) rfl (by show 2 * 0 + _ ≤ _; exact Nat.le_of_eq rfl) (hb hby at_61) (fun _ _ => ⟨rfl, e141, (by decide : 4 + 0 ≤ _), (by decide : 9 + 0 ≤ _)⟩)
    dsimp only [Pt.U, Pt.locs, Pt.cells, Pt.slots] at X149 l149 y149 z149 st149 hQ149
    subst l149 y149 z149
    obtain ⟨h149, e149⟩ : ∃ z, T149.heap = z := ⟨_, rfl⟩
    rw [e149] at hQ149
    obtain ⟨rr149, rfl, hs149, N149q, hh149⟩ := hQ149
    have N158 := Fr.app N148 N149q
    have e149' : T149.heap = h141 := e149.trans hh149
    rcases hs149 with ⟨rfl, hq149_0_0⟩ | ⟨rfl, hq149_1_0, hq149_1_1⟩ | ⟨rfl, hq149_2_0, hq149_2_1⟩
    · obtain ⟨cq159, kq159, q159a, q159b, q159c⟩ := isOf hZ e149' g141_0
      obtain ⟨_, _, ⟨T159, L159, k159, n159⟩, -, X159, ⟨Lc159, hQ159, l159, y159, z159⟩, st159⟩ := X149.virtualBack hx (y := (⟨"com/example/stackweave/stackweave/classfile/VerificationType", "kind", "()Lcom/example/stackweave/stackweave/classfile/ValueKind;"⟩ : MethodName)) (z := (⟨"com/example/stackweave/stackweave/classfile/VerificationType", "kind", "()Lcom/example/stackweave/stackweave/classfile/ValueKind;"⟩ : MethodName)) hown (mvT hZ (hw _ (List.mem_of_getElem? (i := 54) rfl))) (mvT hZ (hw _ (List.mem_of_getElem? (i := 55) rfl))) (notFace_of_selects (args := #[]) (mvT hZ (hw _ (List.mem_of_getElem? (i := 57) rfl)))) (mvT hZ (hw _ (List.mem_of_getElem? (i := 57) rfl))) (mvT hZ (hw _ (List.mem_of_getElem? (i := 56) rfl))) (by decide) (backOf (W := 0) (rmkind10 l Z a0 hw [] b133 ((p0_ &&& (2147483647 : Int32)) % (9 : Int32)) b114 p1_ nnnb1_3_2_124 k1_3_2_124 ((p2_ &&& (255 : Int32)).toInt8.toInt32) w_REFERENCE h141 n0 f157 hq149_0_0 g141_0 g141_1 g141_2 g141_3 f150 f151 f153 f154 f156 P4 P13 P3) hZ (hw _ (List.mem_of_getElem? (i := 58) rfl)) (hw _ (List.mem_of_getElem? (i := 33) rfl)) (by decide) (by decide)) q159a q159c (g := (mkF m 81 #[.val (.int p0_), .val (.int p1_), .val (.int p2_), .val (.int p3_), .val (.int ((p0_ &&& (2147483647 : Int32)) % (9 : Int32))), .val (.ref b106), .val (.ref b114), .val (.ref b133), .val (.int (1 : Int32)), .unset] [(.ref b133)])) rfl (by rw [hml]; rfl) (Steps.refl _) (argsL := []) (rest := []) (lenOf pd_8 rfl) rfl (by show 2 * 0 + _ ≤ _; exact Nat.le_of_eq rfl) (hb hby at_81) (fun _ _ => ⟨rfl, e149', (by decide : 4 + 0 ≤ _), (by decide : 9 + 0 ≤ _)⟩)
      dsimp only [Pt.U, Pt.locs, Pt.cells, Pt.slots] at X159 l159 y159 z159 st159 hQ159
      subst l159 y159 z159
      obtain ⟨h159, e159⟩ : ∃ z, T159.heap = z := ⟨_, rfl⟩
      rw [e159] at hQ159
      obtain ⟨rfl, N159q, hh159⟩ := hQ159
      have N160 := Fr.app N158 N159q
      have e159' : T159.heap = h141 := e159.trans hh159
      obtain ⟨T161, X161, e161, st161⟩ := getS2 X159 hx hZ hown (host := "") (Or.inl (hw _ (List.mem_of_getElem? (i := 62) rfl))) Via.refl e159' (P3.ext f157.2) (g := (mkF m 84 #[.val (.int p0_), .val (.int p1_), .val (.int p2_), .val (.int p3_), .val (.int ((p0_ &&& (2147483647 : Int32)) % (9 : Int32))), .val (.ref b106), .val (.ref b114), .val (.ref b133), .val (.int (1 : Int32)), .unset] [(.ref w_REFERENCE)])) rfl (hb hby at_84)
      obtain ⟨cq162, kq162, q162a, q162b, q162c⟩ := isOf hZ e161 g141_0
      obtain ⟨_, _, ⟨T162, L162, k162, n162⟩, -, X162, ⟨Lc162, hQ162, l162, y162, z162⟩, st162⟩ := X161.virtualBack hx (y := (⟨"com/example/stackweave/stackweave/classfile/VerificationType", "isReference", "()Z"⟩ : MethodName)) (z := (⟨"com/example/stackweave/stackweave/classfile/VerificationType", "isReference", "()Z"⟩ : MethodName)) hown (mvT hZ (hw _ (List.mem_of_getElem? (i := 69) rfl))) (mvT hZ (hw _ (List.mem_of_getElem? (i := 70) rfl))) (notFace_of_selects (args := #[]) (mvT hZ (hw _ (List.mem_of_getElem? (i := 72) rfl)))) (mvT hZ (hw _ (List.mem_of_getElem? (i := 72) rfl))) (mvT hZ (hw _ (List.mem_of_getElem? (i := 71) rfl))) (by decide) (backOf (W := 0) (rmisReference11 l Z a0 hw [] b133 ((p0_ &&& (2147483647 : Int32)) % (9 : Int32)) b114 p1_ nnnb1_3_2_124 k1_3_2_124 ((p2_ &&& (255 : Int32)).toInt8.toInt32) h141 n0 f157 hq149_0_0 g141_0 g141_1 g141_2 g141_3 f150 f151 f153 f154 f156) hZ (hw _ (List.mem_of_getElem? (i := 73) rfl)) (hw _ (List.mem_of_getElem? (i := 33) rfl)) (by decide) (by decide)) q162a q162c (g := (mkF m 92 #[.val (.int p0_), .val (.int p1_), .val (.int p2_), .val (.int p3_), .val (.int ((p0_ &&& (2147483647 : Int32)) % (9 : Int32))), .val (.ref b106), .val (.ref b114), .val (.ref b133), .val (.int (1 : Int32)), .unset] [(.ref b133)])) rfl (by rw [hml]; rfl) (Steps.refl _) (argsL := []) (rest := []) (lenOf pd_7 rfl) rfl (by show 2 * 0 + _ ≤ _; exact Nat.le_of_eq rfl) (hb hby at_92) (fun _ _ => ⟨rfl, e161, (by decide : 4 + 0 ≤ _), (by decide : 9 + 0 ≤ _)⟩)
      dsimp only [Pt.U, Pt.locs, Pt.cells, Pt.slots] at X162 l162 y162 z162 st162 hQ162
      subst l162 y162 z162
      obtain ⟨h162, e162⟩ : ∃ z, T162.heap = z := ⟨_, rfl⟩
      rw [e162] at hQ162
      obtain ⟨rfl, N162q, hh162⟩ := hQ162
      have N163 := Fr.app N160 N162q
      have e162' : T162.heap = h141 := e162.trans hh162
      have pre164 : ∀ t, Steps p.tables e below (T162.setTop (mkF m 117 #[.val (.int p0_), .val (.int p1_), .val (.int p2_), .val (.int p3_), .val (.int ((p0_ &&& (2147483647 : Int32)) % (9 : Int32))), .val (.ref b106), .val (.ref b114), .val (.ref b133), .val (.int (1 : Int32)), .val (.int (1 : Int32))] [(.int (1 : Int32))])) t → Steps p.tables e below (s₁.setTop (entryFrame m #[(.int p0_), (.int p1_), (.int p2_), (.int p3_)] maxLocals)) t := by
        intro t kt
        refine pre1 t ?_
        show Steps p.tables e below (s₁.setTop (mkF m 3 #[.val (.int p0_), .val (.int p1_), .val (.int p2_), .val (.int p3_), .unset, .unset, .unset, .unset, .unset, .unset] [(.int (p3_ &&& (1 : Int32)))])) _
        refine XS.ifYes X0.here hx rfl (pc0 := 3) (pc' := 10) rfl (hb hby at_3) rfl ((if0 _ _).trans (feq hc2).2) (by decide) (by decide) ?_
        show Steps p.tables e below (s₁.setTop (mkF m 10 #[.val (.int p0_), .val (.int p1_), .val (.int p2_), .val (.int p3_), .unset, .unset, .unset, .unset, .unset, .unset] [])) _
        refine XS.iloadN X0.here hx rfl (hb hby at_10) rfl ?_
        show Steps p.tables e below (s₁.setTop (mkF m 11 #[.val (.int p0_), .val (.int p1_), .val (.int p2_), .val (.int p3_), .unset, .unset, .unset, .unset, .unset, .unset] [(.int p0_)])) _
        refine X0.ldcInt hx hown (mvT hZ (hw _ (List.mem_of_getElem? (i := 0) rfl))) (g := (mkF m 11 #[.val (.int p0_), .val (.int p1_), .val (.int p2_), .val (.int p3_), .unset, .unset, .unset, .unset, .unset, .unset] [(.int p0_)])) rfl (hb hby at_11) _ ?_
        show Steps p.tables e below (s₁.setTop (mkF m 13 #[.val (.int p0_), .val (.int p1_), .val (.int p2_), .val (.int p3_), .unset, .unset, .unset, .unset, .unset, .unset] [(.int (2147483647 : Int32)), (.int p0_)])) _
        refine XS.iand X0.here hx rfl (hb hby at_13) rfl ?_
        show Steps p.tables e below (s₁.setTop (mkF m 14 #[.val (.int p0_), .val (.int p1_), .val (.int p2_), .val (.int p3_), .unset, .unset, .unset, .unset, .unset, .unset] [(.int (p0_ &&& (2147483647 : Int32)))])) _
        refine XS.bipush X0.here hx rfl (hb hby at_14) ?_
        show Steps p.tables e below (s₁.setTop (mkF m 16 #[.val (.int p0_), .val (.int p1_), .val (.int p2_), .val (.int p3_), .unset, .unset, .unset, .unset, .unset, .unset] [(.int (9 : Int32)), (.int (p0_ &&& (2147483647 : Int32)))])) _
        refine iremM (g := (mkF m 16 #[.val (.int p0_), .val (.int p1_), .val (.int p2_), .val (.int p3_), .unset, .unset, .unset, .unset, .unset, .unset] [(.int (9 : Int32)), (.int (p0_ &&& (2147483647 : Int32)))])) X0 hx rfl (hb hby at_16) rfl (by decide) ?_
        show Steps p.tables e below (s₁.setTop (mkF m 17 #[.val (.int p0_), .val (.int p1_), .val (.int p2_), .val (.int p3_), .unset, .unset, .unset, .unset, .unset, .unset] [(.int ((p0_ &&& (2147483647 : Int32)) % (9 : Int32)))])) _
        refine XS.istore X0.here hx rfl (hb hby at_17) rfl (l' := #[.val (.int p0_), .val (.int p1_), .val (.int p2_), .val (.int p3_), .val (.int ((p0_ &&& (2147483647 : Int32)) % (9 : Int32))), .unset, .unset, .unset, .unset, .unset]) rfl ?_
        show Steps p.tables e below (s₁.setTop (mkF m 19 #[.val (.int p0_), .val (.int p1_), .val (.int p2_), .val (.int p3_), .val (.int ((p0_ &&& (2147483647 : Int32)) % (9 : Int32))), .unset, .unset, .unset, .unset, .unset] [])) _
        refine XS.iconst X0.here hx rfl (hb hby at_19) ?_
        show Steps p.tables e below (s₁.setTop (mkF m 20 #[.val (.int p0_), .val (.int p1_), .val (.int p2_), .val (.int p3_), .val (.int ((p0_ &&& (2147483647 : Int32)) % (9 : Int32))), .unset, .unset, .unset, .unset, .unset] [(.int (1 : Int32))])) _
        refine st106 _ ?_
        show Steps p.tables e below (T106.setTop (mkF m 22 #[.val (.int p0_), .val (.int p1_), .val (.int p2_), .val (.int p3_), .val (.int ((p0_ &&& (2147483647 : Int32)) % (9 : Int32))), .unset, .unset, .unset, .unset, .unset] [(.ref b106)])) _
        refine XS.astore X106.here hx rfl (hb hby at_22) rfl rfl (l' := #[.val (.int p0_), .val (.int p1_), .val (.int p2_), .val (.int p3_), .val (.int ((p0_ &&& (2147483647 : Int32)) % (9 : Int32))), .val (.ref b106), .unset, .unset, .unset, .unset]) rfl ?_
        show Steps p.tables e below (T106.setTop (mkF m 24 #[.val (.int p0_), .val (.int p1_), .val (.int p2_), .val (.int p3_), .val (.int ((p0_ &&& (2147483647 : Int32)) % (9 : Int32))), .val (.ref b106), .unset, .unset, .unset, .unset] [])) _
        refine XS.aload X106.here hx rfl (hb hby at_24) rfl rfl ?_
        show Steps p.tables e below (T106.setTop (mkF m 26 #[.val (.int p0_), .val (.int p1_), .val (.int p2_), .val (.int p3_), .val (.int ((p0_ &&& (2147483647 : Int32)) % (9 : Int32))), .val (.ref b106), .unset, .unset, .unset, .unset] [(.ref b106)])) _
        refine XS.iconst X106.here hx rfl (hb hby at_26) ?_
        show Steps p.tables e below (T106.setTop (mkF m 27 #[.val (.int p0_), .val (.int p1_), .val (.int p2_), .val (.int p3_), .val (.int ((p0_ &&& (2147483647 : Int32)) % (9 : Int32))), .val (.ref b106), .unset, .unset, .unset, .unset] [(.int (0 : Int32)), (.ref b106)])) _
        refine XS.iloadN X106.here hx rfl (hb hby at_27) rfl ?_
        show Steps p.tables e below (T106.setTop (mkF m 28 #[.val (.int p0_), .val (.int p1_), .val (.int p2_), .val (.int p3_), .val (.int ((p0_ &&& (2147483647 : Int32)) % (9 : Int32))), .val (.ref b106), .unset, .unset, .unset, .unset] [(.int p2_), (.int (0 : Int32)), (.ref b106)])) _
        refine XS.sipush X106.here hx rfl (hb hby at_28) ?_
        show Steps p.tables e below (T106.setTop (mkF m 31 #[.val (.int p0_), .val (.int p1_), .val (.int p2_), .val (.int p3_), .val (.int ((p0_ &&& (2147483647 : Int32)) % (9 : Int32))), .val (.ref b106), .unset, .unset, .unset, .unset] [(.int (255 : Int32)), (.int p2_), (.int (0 : Int32)), (.ref b106)])) _
        refine XS.iand X106.here hx rfl (hb hby at_31) rfl ?_
        show Steps p.tables e below (T106.setTop (mkF m 32 #[.val (.int p0_), .val (.int p1_), .val (.int p2_), .val (.int p3_), .val (.int ((p0_ &&& (2147483647 : Int32)) % (9 : Int32))), .val (.ref b106), .unset, .unset, .unset, .unset] [(.int (p2_ &&& (255 : Int32))), (.int (0 : Int32)), (.ref b106)])) _
        refine XS.i2c X106.here hx rfl (hb hby at_32) rfl ?_
        show Steps p.tables e below (T106.setTop (mkF m 33 #[.val (.int p0_), .val (.int p1_), .val (.int p2_), .val (.int p3_), .val (.int ((p0_ &&& (2147483647 : Int32)) % (9 : Int32))), .val (.ref b106), .unset, .unset, .unset, .unset] [(.int ((p2_ &&& (255 : Int32)).toUInt32.toUInt16.toUInt32.toInt32)), (.int (0 : Int32)), (.ref b106)])) _
        rw [i2c_mask]
        show Steps p.tables e below (T106.setTop (mkF m 33 #[.val (.int p0_), .val (.int p1_), .val (.int p2_), .val (.int p3_), .val (.int ((p0_ &&& (2147483647 : Int32)) % (9 : Int32))), .val (.ref b106), .unset, .unset, .unset, .unset] [(.int (p2_ &&& (255 : Int32))), (.int (0 : Int32)), (.ref b106)])) _
        refine st110 _ ?_
        show Steps p.tables e below (T110.setTop (mkF m 34 #[.val (.int p0_), .val (.int p1_), .val (.int p2_), .val (.int p3_), .val (.int ((p0_ &&& (2147483647 : Int32)) % (9 : Int32))), .val (.ref b106), .unset, .unset, .unset, .unset] [])) _
        refine st114 _ ?_
        show Steps p.tables e below (T114.setTop (mkF m 37 #[.val (.int p0_), .val (.int p1_), .val (.int p2_), .val (.int p3_), .val (.int ((p0_ &&& (2147483647 : Int32)) % (9 : Int32))), .val (.ref b106), .unset, .unset, .unset, .unset] [(.ref b114)])) _
        refine XS.dup X114.here hx rfl (hb hby at_37) rfl rfl ?_
        show Steps p.tables e below (T114.setTop (mkF m 38 #[.val (.int p0_), .val (.int p1_), .val (.int p2_), .val (.int p3_), .val (.int ((p0_ &&& (2147483647 : Int32)) % (9 : Int32))), .val (.ref b106), .unset, .unset, .unset, .unset] [(.ref b114), (.ref b114)])) _
        refine XS.aload X114.here hx rfl (hb hby at_38) rfl rfl ?_
        show Steps p.tables e below (T114.setTop (mkF m 40 #[.val (.int p0_), .val (.int p1_), .val (.int p2_), .val (.int p3_), .val (.int ((p0_ &&& (2147483647 : Int32)) % (9 : Int32))), .val (.ref b106), .unset, .unset, .unset, .unset] [(.ref b106), (.ref b114), (.ref b114)])) _
        refine st124.trans ?_
        show Steps p.tables e below (T124.setTop (mkF m 43 #[.val (.int p0_), .val (.int p1_), .val (.int p2_), .val (.int p3_), .val (.int ((p0_ &&& (2147483647 : Int32)) % (9 : Int32))), .val (.ref b106), .unset, .unset, .unset, .unset] [(.ref b114)])) _
        refine XS.astore X124.here hx rfl (hb hby at_43) rfl rfl (l' := #[.val (.int p0_), .val (.int p1_), .val (.int p2_), .val (.int p3_), .val (.int ((p0_ &&& (2147483647 : Int32)) % (9 : Int32))), .val (.ref b106), .val (.ref b114), .unset, .unset, .unset]) rfl ?_
        show Steps p.tables e below (T124.setTop (mkF m 45 #[.val (.int p0_), .val (.int p1_), .val (.int p2_), .val (.int p3_), .val (.int ((p0_ &&& (2147483647 : Int32)) % (9 : Int32))), .val (.ref b106), .val (.ref b114), .unset, .unset, .unset] [])) _
        refine st133 _ ?_
        show Steps p.tables e below (T133.setTop (mkF m 48 #[.val (.int p0_), .val (.int p1_), .val (.int p2_), .val (.int p3_), .val (.int ((p0_ &&& (2147483647 : Int32)) % (9 : Int32))), .val (.ref b106), .val (.ref b114), .unset, .unset, .unset] [(.ref b133)])) _
        refine XS.dup X133.here hx rfl (hb hby at_48) rfl rfl ?_
        show Steps p.tables e below (T133.setTop (mkF m 49 #[.val (.int p0_), .val (.int p1_), .val (.int p2_), .val (.int p3_), .val (.int ((p0_ &&& (2147483647 : Int32)) % (9 : Int32))), .val (.ref b106), .val (.ref b114), .unset, .unset, .unset] [(.ref b133), (.ref b133)])) _
        refine XS.iload X133.here hx rfl (hb hby at_49) rfl ?_
        show Steps p.tables e below (T133.setTop (mkF m 51 #[.val (.int p0_), .val (.int p1_), .val (.int p2_), .val (.int p3_), .val (.int ((p0_ &&& (2147483647 : Int32)) % (9 : Int32))), .val (.ref b106), .val (.ref b114), .unset, .unset, .unset] [(.int ((p0_ &&& (2147483647 : Int32)) % (9 : Int32))), (.ref b133), (.ref b133)])) _
        refine XS.aload X133.here hx rfl (hb hby at_51) rfl rfl ?_
        show Steps p.tables e below (T133.setTop (mkF m 53 #[.val (.int p0_), .val (.int p1_), .val (.int p2_), .val (.int p3_), .val (.int ((p0_ &&& (2147483647 : Int32)) % (9 : Int32))), .val (.ref b106), .val (.ref b114), .unset, .unset, .unset] [(.ref b114), (.int ((p0_ &&& (2147483647 : Int32)) % (9 : Int32))), (.ref b133), (.ref b133)])) _
        refine XS.iloadN X133.here hx rfl (hb hby at_53) rfl ?_
        show Steps p.tables e below (T133.setTop (mkF m 54 #[.val (.int p0_), .val (.int p1_), .val (.int p2_), .val (.int p3_), .val (.int ((p0_ &&& (2147483647 : Int32)) % (9 : Int32))), .val (.ref b106), .val (.ref b114), .unset, .unset, .unset] [(.int p1_), (.ref b114), (.int ((p0_ &&& (2147483647 : Int32)) % (9 : Int32))), (.ref b133), (.ref b133)])) _
        refine st141.trans ?_
        show Steps p.tables e below (T141.setTop (mkF m 57 #[.val (.int p0_), .val (.int p1_), .val (.int p2_), .val (.int p3_), .val (.int ((p0_ &&& (2147483647 : Int32)) % (9 : Int32))), .val (.ref b106), .val (.ref b114), .unset, .unset, .unset] [(.ref b133)])) _
        refine XS.astore X141.here hx rfl (hb hby at_57) rfl rfl (l' := #[.val (.int p0_), .val (.int p1_), .val (.int p2_), .val (.int p3_), .val (.int ((p0_ &&& (2147483647 : Int32)) % (9 : Int32))), .val (.ref b106), .val (.ref b114), .val (.ref b133), .unset, .unset]) rfl ?_
        show Steps p.tables e below (T141.setTop (mkF m 59 #[.val (.int p0_), .val (.int p1_), .val (.int p2_), .val (.int p3_), .val (.int ((p0_ &&& (2147483647 : Int32)) % (9 : Int32))), .val (.ref b106), .val (.ref b114), .val (.ref b133), .unset, .unset] [])) _
        refine XS.aload X141.here hx rfl (hb hby at_59) rfl rfl ?_
        show Steps p.tables e below (T141.setTop (mkF m 61 #[.val (.int p0_), .val (.int p1_), .val (.int p2_), .val (.int p3_), .val (.int ((p0_ &&& (2147483647 : Int32)) % (9 : Int32))), .val (.ref b106), .val (.ref b114), .val (.ref b133), .unset, .unset] [(.ref b133)])) _
        refine st149.trans ?_
        show Steps p.tables e below (T149.setTop (mkF m 64 #[.val (.int p0_), .val (.int p1_), .val (.int p2_), .val (.int p3_), .val (.int ((p0_ &&& (2147483647 : Int32)) % (9 : Int32))), .val (.ref b106), .val (.ref b114), .val (.ref b133), .unset, .unset] [(.int (1 : Int32))])) _
        refine XS.istore X149.here hx rfl (hb hby at_64) rfl (l' := #[.val (.int p0_), .val (.int p1_), .val (.int p2_), .val (.int p3_), .val (.int ((p0_ &&& (2147483647 : Int32)) % (9 : Int32))), .val (.ref b106), .val (.ref b114), .val (.ref b133), .val (.int (1 : Int32)), .unset]) rfl ?_
        show Steps p.tables e below (T149.setTop (mkF m 66 #[.val (.int p0_), .val (.int p1_), .val (.int p2_), .val (.int p3_), .val (.int ((p0_ &&& (2147483647 : Int32)) % (9 : Int32))), .val (.ref b106), .val (.ref b114), .val (.ref b133), .val (.int (1 : Int32)), .unset] [])) _
        refine XS.iload X149.here hx rfl (hb hby at_66) rfl ?_
        show Steps p.tables e below (T149.setTop (mkF m 68 #[.val (.int p0_), .val (.int p1_), .val (.int p2_), .val (.int p3_), .val (.int ((p0_ &&& (2147483647 : Int32)) % (9 : Int32))), .val (.ref b106), .val (.ref b114), .val (.ref b133), .val (.int (1 : Int32)), .unset] [(.int ((p0_ &&& (2147483647 : Int32)) % (9 : Int32)))])) _
        refine XS.iconst X149.here hx rfl (hb hby at_68) ?_
        show Steps p.tables e below (T149.setTop (mkF m 69 #[.val (.int p0_), .val (.int p1_), .val (.int p2_), .val (.int p3_), .val (.int ((p0_ &&& (2147483647 : Int32)) % (9 : Int32))), .val (.ref b106), .val (.ref b114), .val (.ref b133), .val (.int (1 : Int32)), .unset] [(.int (1 : Int32)), (.int ((p0_ &&& (2147483647 : Int32)) % (9 : Int32)))])) _
        refine XS.icmpNo X149.here hx rfl (hb hby at_69) rfl (flt (by intro hz; have lt_0 : ((1 : Int32)).toInt = 1 := rfl; have lt_1 : ((2147483647 : Int32)).toInt = 2147483647 := rfl; have lt_2 : ((6 : Int32)).toInt = 6 := rfl; have lt_3 : ((9 : Int32)).toInt = 9 := rfl; simp only [Int32.lt_iff_toInt_lt, Int64.lt_iff_toInt_lt, ← Int32.toInt_inj, ← Int64.toInt_inj] at hz hq149_0_0; omega)).1 ?_
        show Steps p.tables e below (T149.setTop (mkF m 72 #[.val (.int p0_), .val (.int p1_), .val (.int p2_), .val (.int p3_), .val (.int ((p0_ &&& (2147483647 : Int32)) % (9 : Int32))), .val (.ref b106), .val (.ref b114), .val (.ref b133), .val (.int (1 : Int32)), .unset] [])) _
        refine XS.iload X149.here hx rfl (hb hby at_72) rfl ?_
        show Steps p.tables e below (T149.setTop (mkF m 74 #[.val (.int p0_), .val (.int p1_), .val (.int p2_), .val (.int p3_), .val (.int ((p0_ &&& (2147483647 : Int32)) % (9 : Int32))), .val (.ref b106), .val (.ref b114), .val (.ref b133), .val (.int (1 : Int32)), .unset] [(.int ((p0_ &&& (2147483647 : Int32)) % (9 : Int32)))])) _
        refine XS.bipush X149.here hx rfl (hb hby at_74) ?_
        show Steps p.tables e below (T149.setTop (mkF m 76 #[.val (.int p0_), .val (.int p1_), .val (.int p2_), .val (.int p3_), .val (.int ((p0_ &&& (2147483647 : Int32)) % (9 : Int32))), .val (.ref b106), .val (.ref b114), .val (.ref b133), .val (.int (1 : Int32)), .unset] [(.int (8 : Int32)), (.int ((p0_ &&& (2147483647 : Int32)) % (9 : Int32)))])) _
        refine XS.icmpNo X149.here hx rfl (hb hby at_76) rfl (flt (by intro hz; have lt_0 : ((2147483647 : Int32)).toInt = 2147483647 := rfl; have lt_1 : ((6 : Int32)).toInt = 6 := rfl; have lt_2 : ((8 : Int32)).toInt = 8 := rfl; have lt_3 : ((9 : Int32)).toInt = 9 := rfl; simp only [Int32.lt_iff_toInt_lt, Int64.lt_iff_toInt_lt, ← Int32.toInt_inj, ← Int64.toInt_inj] at hz hq149_0_0; omega)).2.2.1 ?_
        show Steps p.tables e below (T149.setTop (mkF m 79 #[.val (.int p0_), .val (.int p1_), .val (.int p2_), .val (.int p3_), .val (.int ((p0_ &&& (2147483647 : Int32)) % (9 : Int32))), .val (.ref b106), .val (.ref b114), .val (.ref b133), .val (.int (1 : Int32)), .unset] [])) _
        refine XS.aload X149.here hx rfl (hb hby at_79) rfl rfl ?_
        show Steps p.tables e below (T149.setTop (mkF m 81 #[.val (.int p0_), .val (.int p1_), .val (.int p2_), .val (.int p3_), .val (.int ((p0_ &&& (2147483647 : Int32)) % (9 : Int32))), .val (.ref b106), .val (.ref b114), .val (.ref b133), .val (.int (1 : Int32)), .unset] [(.ref b133)])) _
        refine st159.trans ?_
        show Steps p.tables e below (T159.setTop (mkF m 84 #[.val (.int p0_), .val (.int p1_), .val (.int p2_), .val (.int p3_), .val (.int ((p0_ &&& (2147483647 : Int32)) % (9 : Int32))), .val (.ref b106), .val (.ref b114), .val (.ref b133), .val (.int (1 : Int32)), .unset] [(.ref w_REFERENCE)])) _
        refine st161 _ ?_
        show Steps p.tables e below (T161.setTop (mkF m 87 #[.val (.int p0_), .val (.int p1_), .val (.int p2_), .val (.int p3_), .val (.int ((p0_ &&& (2147483647 : Int32)) % (9 : Int32))), .val (.ref b106), .val (.ref b114), .val (.ref b133), .val (.int (1 : Int32)), .unset] [(.ref w_REFERENCE), (.ref w_REFERENCE)])) _
        refine Jvm.RoadKit.acmp (g := (mkF m 87 #[.val (.int p0_), .val (.int p1_), .val (.int p2_), .val (.int p3_), .val (.int ((p0_ &&& (2147483647 : Int32)) % (9 : Int32))), .val (.ref b106), .val (.ref b114), .val (.ref b133), .val (.int (1 : Int32)), .unset] [(.ref w_REFERENCE), (.ref w_REFERENCE)])) X161 hx rfl rfl rfl (pc0 := 87) (pc' := 90) (same := true) rfl (hb hby at_87) rfl (decide_eq_true rfl) (by decide) (by decide) ?_
        show Steps p.tables e below (T161.setTop (mkF m 90 #[.val (.int p0_), .val (.int p1_), .val (.int p2_), .val (.int p3_), .val (.int ((p0_ &&& (2147483647 : Int32)) % (9 : Int32))), .val (.ref b106), .val (.ref b114), .val (.ref b133), .val (.int (1 : Int32)), .unset] [])) _
        refine XS.aload X161.here hx rfl (hb hby at_90) rfl rfl ?_
        show Steps p.tables e below (T161.setTop (mkF m 92 #[.val (.int p0_), .val (.int p1_), .val (.int p2_), .val (.int p3_), .val (.int ((p0_ &&& (2147483647 : Int32)) % (9 : Int32))), .val (.ref b106), .val (.ref b114), .val (.ref b133), .val (.int (1 : Int32)), .unset] [(.ref b133)])) _
        refine st162.trans ?_
        show Steps p.tables e below (T162.setTop (mkF m 95 #[.val (.int p0_), .val (.int p1_), .val (.int p2_), .val (.int p3_), .val (.int ((p0_ &&& (2147483647 : Int32)) % (9 : Int32))), .val (.ref b106), .val (.ref b114), .val (.ref b133), .val (.int (1 : Int32)), .unset] [(.int (0 : Int32))])) _
        refine XS.ifNo X162.here hx rfl (hb hby at_95) rfl ((if0 _ _).trans (teq (by decide : (0 : Int32) = (0 : Int32))).2) ?_
        show Steps p.tables e below (T162.setTop (mkF m 98 #[.val (.int p0_), .val (.int p1_), .val (.int p2_), .val (.int p3_), .val (.int ((p0_ &&& (2147483647 : Int32)) % (9 : Int32))), .val (.ref b106), .val (.ref b114), .val (.ref b133), .val (.int (1 : Int32)), .unset] [])) _
        refine XS.iconst X162.here hx rfl (hb hby at_98) ?_
        show Steps p.tables e below (T162.setTop (mkF m 99 #[.val (.int p0_), .val (.int p1_), .val (.int p2_), .val (.int p3_), .val (.int ((p0_ &&& (2147483647 : Int32)) % (9 : Int32))), .val (.ref b106), .val (.ref b114), .val (.ref b133), .val (.int (1 : Int32)), .unset] [(.int (1 : Int32))])) _
        refine XS.goto X162.here hx rfl (pc0 := 99) (pc' := 103) rfl (hb hby at_99) (by decide) (by decide) ?_
        show Steps p.tables e below (T162.setTop (mkF m 103 #[.val (.int p0_), .val (.int p1_), .val (.int p2_), .val (.int p3_), .val (.int ((p0_ &&& (2147483647 : Int32)) % (9 : Int32))), .val (.ref b106), .val (.ref b114), .val (.ref b133), .val (.int (1 : Int32)), .unset] [(.int (1 : Int32))])) _
        refine XS.istore X162.here hx rfl (hb hby at_103) rfl (l' := #[.val (.int p0_), .val (.int p1_), .val (.int p2_), .val (.int p3_), .val (.int ((p0_ &&& (2147483647 : Int32)) % (9 : Int32))), .val (.ref b106), .val (.ref b114), .val (.ref b133), .val (.int (1 : Int32)), .val (.int (1 : Int32))]) rfl ?_
        show Steps p.tables e below (T162.setTop (mkF m 105 #[.val (.int p0_), .val (.int p1_), .val (.int p2_), .val (.int p3_), .val (.int ((p0_ &&& (2147483647 : Int32)) % (9 : Int32))), .val (.ref b106), .val (.ref b114), .val (.ref b133), .val (.int (1 : Int32)), .val (.int (1 : Int32))] [])) _
        refine XS.iload X162.here hx rfl (hb hby at_105) rfl ?_
        show Steps p.tables e below (T162.setTop (mkF m 107 #[.val (.int p0_), .val (.int p1_), .val (.int p2_), .val (.int p3_), .val (.int ((p0_ &&& (2147483647 : Int32)) % (9 : Int32))), .val (.ref b106), .val (.ref b114), .val (.ref b133), .val (.int (1 : Int32)), .val (.int (1 : Int32))] [(.int (1 : Int32))])) _
        refine XS.iload X162.here hx rfl (hb hby at_107) rfl ?_
        show Steps p.tables e below (T162.setTop (mkF m 109 #[.val (.int p0_), .val (.int p1_), .val (.int p2_), .val (.int p3_), .val (.int ((p0_ &&& (2147483647 : Int32)) % (9 : Int32))), .val (.ref b106), .val (.ref b114), .val (.ref b133), .val (.int (1 : Int32)), .val (.int (1 : Int32))] [(.int (1 : Int32)), (.int (1 : Int32))])) _
        refine XS.icmpNo X162.here hx rfl (hb hby at_109) rfl (teq (by decide : (1 : Int32) = (1 : Int32))).2 ?_
        show Steps p.tables e below (T162.setTop (mkF m 112 #[.val (.int p0_), .val (.int p1_), .val (.int p2_), .val (.int p3_), .val (.int ((p0_ &&& (2147483647 : Int32)) % (9 : Int32))), .val (.ref b106), .val (.ref b114), .val (.ref b133), .val (.int (1 : Int32)), .val (.int (1 : Int32))] [])) _
        refine XS.iconst X162.here hx rfl (hb hby at_112) ?_
        show Steps p.tables e below (T162.setTop (mkF m 113 #[.val (.int p0_), .val (.int p1_), .val (.int p2_), .val (.int p3_), .val (.int ((p0_ &&& (2147483647 : Int32)) % (9 : Int32))), .val (.ref b106), .val (.ref b114), .val (.ref b133), .val (.int (1 : Int32)), .val (.int (1 : Int32))] [(.int (1 : Int32))])) _
        refine XS.goto X162.here hx rfl (pc0 := 113) (pc' := 117) rfl (hb hby at_113) (by decide) (by decide) ?_
        exact kt
      obtain ⟨fs, hr, hrun, hended, hW, hsame⟩ := X162.leave (v := some (.int (1 : Int32))) (fun h => by rw [Bd.returns] at h; cases h)
      refine ⟨_, _, pre164 _ (retN X162 hx (t := .boolean) Bd.returns (by simp) (hb hby at_117) hr), hrun, hended, _, _, rfl, ?_, ⟨_, rfl⟩, hW, hsame.mono (by decide) (by decide)⟩
      show QLaw Z p0_ p1_ p2_ p3_ w_COMPACT_STRINGS w_LONG w_FLOAT w_DOUBLE w_REFERENCE w_INT h0 n0 _ T162.heap _
      rw [e162']
      exact ⟨rfl, N163⟩
    · obtain ⟨cq166, kq166, q166a, q166b, q166c⟩ := isOf hZ e149' g141_0
      obtain ⟨_, _, ⟨T166, L166, k166, n166⟩, -, X166, ⟨Lc166, hQ166, l166, y166, z166⟩, st166⟩ := X149.virtualBack hx (y := (⟨"com/example/stackweave/stackweave/classfile/VerificationType", "kind", "()Lcom/example/stackweave/stackweave/classfile/ValueKind;"⟩ : MethodName)) (z := (⟨"com/example/stackweave/stackweave/classfile/VerificationType", "kind", "()Lcom/example/stackweave/stackweave/classfile/ValueKind;"⟩ : MethodName)) hown (mvT hZ (hw _ (List.mem_of_getElem? (i := 54) rfl))) (mvT hZ (hw _ (List.mem_of_getElem? (i := 55) rfl))) (notFace_of_selects (args := #[]) (mvT hZ (hw _ (List.mem_of_getElem? (i := 57) rfl)))) (mvT hZ (hw _ (List.mem_of_getElem? (i := 57) rfl))) (mvT hZ (hw _ (List.mem_of_getElem? (i := 56) rfl))) (by decide) (backOf (W := 0) (rmkind12 l Z a0 hw [] b133 ((p0_ &&& (2147483647 : Int32)) % (9 : Int32)) b114 p1_ nnnb1_3_2_124 k1_3_2_124 ((p2_ &&& (255 : Int32)).toInt8.toInt32) w_REFERENCE h141 n0 f157 hq149_1_0 hq149_1_1 g141_0 g141_1 g141_2 g141_3 f150 f151 f153 f154 f156 P4 P13 P3) hZ (hw _ (List.mem_of_getElem? (i := 58) rfl)) (hw _ (List.mem_of_getElem? (i := 33) rfl)) (by decide) (by decide)) q166a q166c (g := (mkF m 81 #[.val (.int p0_), .val (.int p1_), .val (.int p2_), .val (.int p3_), .val (.int ((p0_ &&& (2147483647 : Int32)) % (9 : Int32))), .val (.ref b106), .val (.ref b114), .val (.ref b133), .val (.int (1 : Int32)), .unset] [(.ref b133)])) rfl (by rw [hml]; rfl) (Steps.refl _) (argsL := []) (rest := []) (lenOf pd_8 rfl) rfl (by show 2 * 0 + _ ≤ _; exact Nat.le_of_eq rfl) (hb hby at_81) (fun _ _ => ⟨rfl, e149', (by decide : 4 + 0 ≤ _), (by decide : 9 + 0 ≤ _)⟩)
      dsimp only [Pt.U, Pt.locs, Pt.cells, Pt.slots] at X166 l166 y166 z166 st166 hQ166
      subst l166 y166 z166
      obtain ⟨h166, e166⟩ : ∃ z, T166.heap = z := ⟨_, rfl⟩
      rw [e166] at hQ166
      obtain ⟨rfl, N166q, hh166⟩ := hQ166
      have N167 := Fr.app N158 N166q
      have e166' : T166.heap = h141 := e166.trans hh166
      obtain ⟨T168, X168, e168, st168⟩ := getS2 X166 hx hZ hown (host := "") (Or.inl (hw _ (List.mem_of_getElem? (i := 62) rfl))) Via.refl e166' (P3.ext f157.2) (g := (mkF m 84 #[.val (.int p0_), .val (.int p1_), .val (.int p2_), .val (.int p3_), .val (.int ((p0_ &&& (2147483647 : Int32)) % (9 : Int32))), .val (.ref b106), .val (.ref b114), .val (.ref b133), .val (.int (1 : Int32)), .unset] [(.ref w_REFERENCE)])) rfl (hb hby at_84)
      obtain ⟨cq169, kq169, q169a, q169b, q169c⟩ := isOf hZ e168 g141_0
      obtain ⟨_, _, ⟨T169, L169, k169, n169⟩, -, X169, ⟨Lc169, hQ169, l169, y169, z169⟩, st169⟩ := X168.virtualBack hx (y := (⟨"com/example/stackweave/stackweave/classfile/VerificationType", "isReference", "()Z"⟩ : MethodName)) (z := (⟨"com/example/stackweave/stackweave/classfile/VerificationType", "isReference", "()Z"⟩ : MethodName)) hown (mvT hZ (hw _ (List.mem_of_getElem? (i := 69) rfl))) (mvT hZ (hw _ (List.mem_of_getElem? (i := 70) rfl))) (notFace_of_selects (args := #[]) (mvT hZ (hw _ (List.mem_of_getElem? (i := 72) rfl)))) (mvT hZ (hw _ (List.mem_of_getElem? (i := 72) rfl))) (mvT hZ (hw _ (List.mem_of_getElem? (i := 71) rfl))) (by decide) (backOf (W := 0) (rmisReference13 l Z a0 hw [] b133 ((p0_ &&& (2147483647 : Int32)) % (9 : Int32)) b114 p1_ nnnb1_3_2_124 k1_3_2_124 ((p2_ &&& (255 : Int32)).toInt8.toInt32) h141 n0 f157 hq149_1_0 hq149_1_1 g141_0 g141_1 g141_2 g141_3 f150 f151 f153 f154 f156) hZ (hw _ (List.mem_of_getElem? (i := 73) rfl)) (hw _ (List.mem_of_getElem? (i := 33) rfl)) (by decide) (by decide)) q169a q169c (g := (mkF m 92 #[.val (.int p0_), .val (.int p1_), .val (.int p2_), .val (.int p3_), .val (.int ((p0_ &&& (2147483647 : Int32)) % (9 : Int32))), .val (.ref b106), .val (.ref b114), .val (.ref b133), .val (.int (1 : Int32)), .unset] [(.ref b133)])) rfl (by rw [hml]; rfl) (Steps.refl _) (argsL := []) (rest := []) (lenOf pd_7 rfl) rfl (by show 2 * 0 + _ ≤ _; exact Nat.le_of_eq rfl) (hb hby at_92) (fun _ _ => ⟨rfl, e168, (by decide : 4 + 0 ≤ _), (by decide : 9 + 0 ≤ _)⟩)
      dsimp only [Pt.U, Pt.locs, Pt.cells, Pt.slots] at X169 l169 y169 z169 st169 hQ169
      subst l169 y169 z169
      obtain ⟨h169, e169⟩ : ∃ z, T169.heap = z := ⟨_, rfl⟩
      rw [e169] at hQ169
      obtain ⟨rfl, N169q, hh169⟩ := hQ169
      have N170 := Fr.app N167 N169q
      have e169' : T169.heap = h141 := e169.trans hh169
      have pre171 : ∀ t, Steps p.tables e below (T169.setTop (mkF m 117 #[.val (.int p0_), .val (.int p1_), .val (.int p2_), .val (.int p3_), .val (.int ((p0_ &&& (2147483647 : Int32)) % (9 : Int32))), .val (.ref b106), .val (.ref b114), .val (.ref b133), .val (.int (1 : Int32)), .val (.int (1 : Int32))] [(.int (1 : Int32))])) t → Steps p.tables e below (s₁.setTop (entryFrame m #[(.int p0_), (.int p1_), (.int p2_), (.int p3_)] maxLocals)) t := by
        intro t kt
        refine pre1 t ?_
        show Steps p.tables e below (s₁.setTop (mkF m 3 #[.val (.int p0_), .val (.int p1_), .val (.int p2_), .val (.int p3_), .unset, .unset, .unset, .unset, .unset, .unset] [(.int (p3_ &&& (1 : Int32)))])) _
        refine XS.ifYes X0.here hx rfl (pc0 := 3) (pc' := 10) rfl (hb hby at_3) rfl ((if0 _ _).trans (feq hc2).2) (by decide) (by decide) ?_
        show Steps p.tables e below (s₁.setTop (mkF m 10 #[.val (.int p0_), .val (.int p1_), .val (.int p2_), .val (.int p3_), .unset, .unset, .unset, .unset, .unset, .unset] [])) _
        refine XS.iloadN X0.here hx rfl (hb hby at_10) rfl ?_
        show Steps p.tables e below (s₁.setTop (mkF m 11 #[.val (.int p0_), .val (.int p1_), .val (.int p2_), .val (.int p3_), .unset, .unset, .unset, .unset, .unset, .unset] [(.int p0_)])) _
        refine X0.ldcInt hx hown (mvT hZ (hw _ (List.mem_of_getElem? (i := 0) rfl))) (g := (mkF m 11 #[.val (.int p0_), .val (.int p1_), .val (.int p2_), .val (.int p3_), .unset, .unset, .unset, .unset, .unset, .unset] [(.int p0_)])) rfl (hb hby at_11) _ ?_
        show Steps p.tables e below (s₁.setTop (mkF m 13 #[.val (.int p0_), .val (.int p1_), .val (.int p2_), .val (.int p3_), .unset, .unset, .unset, .unset, .unset, .unset] [(.int (2147483647 : Int32)), (.int p0_)])) _
        refine XS.iand X0.here hx rfl (hb hby at_13) rfl ?_
        show Steps p.tables e below (s₁.setTop (mkF m 14 #[.val (.int p0_), .val (.int p1_), .val (.int p2_), .val (.int p3_), .unset, .unset, .unset, .unset, .unset, .unset] [(.int (p0_ &&& (2147483647 : Int32)))])) _
        refine XS.bipush X0.here hx rfl (hb hby at_14) ?_
        show Steps p.tables e below (s₁.setTop (mkF m 16 #[.val (.int p0_), .val (.int p1_), .val (.int p2_), .val (.int p3_), .unset, .unset, .unset, .unset, .unset, .unset] [(.int (9 : Int32)), (.int (p0_ &&& (2147483647 : Int32)))])) _
        refine iremM (g := (mkF m 16 #[.val (.int p0_), .val (.int p1_), .val (.int p2_), .val (.int p3_), .unset, .unset, .unset, .unset, .unset, .unset] [(.int (9 : Int32)), (.int (p0_ &&& (2147483647 : Int32)))])) X0 hx rfl (hb hby at_16) rfl (by decide) ?_
        show Steps p.tables e below (s₁.setTop (mkF m 17 #[.val (.int p0_), .val (.int p1_), .val (.int p2_), .val (.int p3_), .unset, .unset, .unset, .unset, .unset, .unset] [(.int ((p0_ &&& (2147483647 : Int32)) % (9 : Int32)))])) _
        refine XS.istore X0.here hx rfl (hb hby at_17) rfl (l' := #[.val (.int p0_), .val (.int p1_), .val (.int p2_), .val (.int p3_), .val (.int ((p0_ &&& (2147483647 : Int32)) % (9 : Int32))), .unset, .unset, .unset, .unset, .unset]) rfl ?_
        show Steps p.tables e below (s₁.setTop (mkF m 19 #[.val (.int p0_), .val (.int p1_), .val (.int p2_), .val (.int p3_), .val (.int ((p0_ &&& (2147483647 : Int32)) % (9 : Int32))), .unset, .unset, .unset, .unset, .unset] [])) _
        refine XS.iconst X0.here hx rfl (hb hby at_19) ?_
        show Steps p.tables e below (s₁.setTop (mkF m 20 #[.val (.int p0_), .val (.int p1_), .val (.int p2_), .val (.int p3_), .val (.int ((p0_ &&& (2147483647 : Int32)) % (9 : Int32))), .unset, .unset, .unset, .unset, .unset] [(.int (1 : Int32))])) _
        refine st106 _ ?_
        show Steps p.tables e below (T106.setTop (mkF m 22 #[.val (.int p0_), .val (.int p1_), .val (.int p2_), .val (.int p3_), .val (.int ((p0_ &&& (2147483647 : Int32)) % (9 : Int32))), .unset, .unset, .unset, .unset, .unset] [(.ref b106)])) _
        refine XS.astore X106.here hx rfl (hb hby at_22) rfl rfl (l' := #[.val (.int p0_), .val (.int p1_), .val (.int p2_), .val (.int p3_), .val (.int ((p0_ &&& (2147483647 : Int32)) % (9 : Int32))), .val (.ref b106), .unset, .unset, .unset, .unset]) rfl ?_
        show Steps p.tables e below (T106.setTop (mkF m 24 #[.val (.int p0_), .val (.int p1_), .val (.int p2_), .val (.int p3_), .val (.int ((p0_ &&& (2147483647 : Int32)) % (9 : Int32))), .val (.ref b106), .unset, .unset, .unset, .unset] [])) _
        refine XS.aload X106.here hx rfl (hb hby at_24) rfl rfl ?_
        show Steps p.tables e below (T106.setTop (mkF m 26 #[.val (.int p0_), .val (.int p1_), .val (.int p2_), .val (.int p3_), .val (.int ((p0_ &&& (2147483647 : Int32)) % (9 : Int32))), .val (.ref b106), .unset, .unset, .unset, .unset] [(.ref b106)])) _
        refine XS.iconst X106.here hx rfl (hb hby at_26) ?_
        show Steps p.tables e below (T106.setTop (mkF m 27 #[.val (.int p0_), .val (.int p1_), .val (.int p2_), .val (.int p3_), .val (.int ((p0_ &&& (2147483647 : Int32)) % (9 : Int32))), .val (.ref b106), .unset, .unset, .unset, .unset] [(.int (0 : Int32)), (.ref b106)])) _
        refine XS.iloadN X106.here hx rfl (hb hby at_27) rfl ?_
        show Steps p.tables e below (T106.setTop (mkF m 28 #[.val (.int p0_), .val (.int p1_), .val (.int p2_), .val (.int p3_), .val (.int ((p0_ &&& (2147483647 : Int32)) % (9 : Int32))), .val (.ref b106), .unset, .unset, .unset, .unset] [(.int p2_), (.int (0 : Int32)), (.ref b106)])) _
        refine XS.sipush X106.here hx rfl (hb hby at_28) ?_
        show Steps p.tables e below (T106.setTop (mkF m 31 #[.val (.int p0_), .val (.int p1_), .val (.int p2_), .val (.int p3_), .val (.int ((p0_ &&& (2147483647 : Int32)) % (9 : Int32))), .val (.ref b106), .unset, .unset, .unset, .unset] [(.int (255 : Int32)), (.int p2_), (.int (0 : Int32)), (.ref b106)])) _
        refine XS.iand X106.here hx rfl (hb hby at_31) rfl ?_
        show Steps p.tables e below (T106.setTop (mkF m 32 #[.val (.int p0_), .val (.int p1_), .val (.int p2_), .val (.int p3_), .val (.int ((p0_ &&& (2147483647 : Int32)) % (9 : Int32))), .val (.ref b106), .unset, .unset, .unset, .unset] [(.int (p2_ &&& (255 : Int32))), (.int (0 : Int32)), (.ref b106)])) _
        refine XS.i2c X106.here hx rfl (hb hby at_32) rfl ?_
        show Steps p.tables e below (T106.setTop (mkF m 33 #[.val (.int p0_), .val (.int p1_), .val (.int p2_), .val (.int p3_), .val (.int ((p0_ &&& (2147483647 : Int32)) % (9 : Int32))), .val (.ref b106), .unset, .unset, .unset, .unset] [(.int ((p2_ &&& (255 : Int32)).toUInt32.toUInt16.toUInt32.toInt32)), (.int (0 : Int32)), (.ref b106)])) _
        rw [i2c_mask]
        show Steps p.tables e below (T106.setTop (mkF m 33 #[.val (.int p0_), .val (.int p1_), .val (.int p2_), .val (.int p3_), .val (.int ((p0_ &&& (2147483647 : Int32)) % (9 : Int32))), .val (.ref b106), .unset, .unset, .unset, .unset] [(.int (p2_ &&& (255 : Int32))), (.int (0 : Int32)), (.ref b106)])) _
        refine st110 _ ?_
        show Steps p.tables e below (T110.setTop (mkF m 34 #[.val (.int p0_), .val (.int p1_), .val (.int p2_), .val (.int p3_), .val (.int ((p0_ &&& (2147483647 : Int32)) % (9 : Int32))), .val (.ref b106), .unset, .unset, .unset, .unset] [])) _
        refine st114 _ ?_
        show Steps p.tables e below (T114.setTop (mkF m 37 #[.val (.int p0_), .val (.int p1_), .val (.int p2_), .val (.int p3_), .val (.int ((p0_ &&& (2147483647 : Int32)) % (9 : Int32))), .val (.ref b106), .unset, .unset, .unset, .unset] [(.ref b114)])) _
        refine XS.dup X114.here hx rfl (hb hby at_37) rfl rfl ?_
        show Steps p.tables e below (T114.setTop (mkF m 38 #[.val (.int p0_), .val (.int p1_), .val (.int p2_), .val (.int p3_), .val (.int ((p0_ &&& (2147483647 : Int32)) % (9 : Int32))), .val (.ref b106), .unset, .unset, .unset, .unset] [(.ref b114), (.ref b114)])) _
        refine XS.aload X114.here hx rfl (hb hby at_38) rfl rfl ?_
        show Steps p.tables e below (T114.setTop (mkF m 40 #[.val (.int p0_), .val (.int p1_), .val (.int p2_), .val (.int p3_), .val (.int ((p0_ &&& (2147483647 : Int32)) % (9 : Int32))), .val (.ref b106), .unset, .unset, .unset, .unset] [(.ref b106), (.ref b114), (.ref b114)])) _
        refine st124.trans ?_
        show Steps p.tables e below (T124.setTop (mkF m 43 #[.val (.int p0_), .val (.int p1_), .val (.int p2_), .val (.int p3_), .val (.int ((p0_ &&& (2147483647 : Int32)) % (9 : Int32))), .val (.ref b106), .unset, .unset, .unset, .unset] [(.ref b114)])) _
        refine XS.astore X124.here hx rfl (hb hby at_43) rfl rfl (l' := #[.val (.int p0_), .val (.int p1_), .val (.int p2_), .val (.int p3_), .val (.int ((p0_ &&& (2147483647 : Int32)) % (9 : Int32))), .val (.ref b106), .val (.ref b114), .unset, .unset, .unset]) rfl ?_
        show Steps p.tables e below (T124.setTop (mkF m 45 #[.val (.int p0_), .val (.int p1_), .val (.int p2_), .val (.int p3_), .val (.int ((p0_ &&& (2147483647 : Int32)) % (9 : Int32))), .val (.ref b106), .val (.ref b114), .unset, .unset, .unset] [])) _
        refine st133 _ ?_
        show Steps p.tables e below (T133.setTop (mkF m 48 #[.val (.int p0_), .val (.int p1_), .val (.int p2_), .val (.int p3_), .val (.int ((p0_ &&& (2147483647 : Int32)) % (9 : Int32))), .val (.ref b106), .val (.ref b114), .unset, .unset, .unset] [(.ref b133)])) _
        refine XS.dup X133.here hx rfl (hb hby at_48) rfl rfl ?_
        show Steps p.tables e below (T133.setTop (mkF m 49 #[.val (.int p0_), .val (.int p1_), .val (.int p2_), .val (.int p3_), .val (.int ((p0_ &&& (2147483647 : Int32)) % (9 : Int32))), .val (.ref b106), .val (.ref b114), .unset, .unset, .unset] [(.ref b133), (.ref b133)])) _
        refine XS.iload X133.here hx rfl (hb hby at_49) rfl ?_
        show Steps p.tables e below (T133.setTop (mkF m 51 #[.val (.int p0_), .val (.int p1_), .val (.int p2_), .val (.int p3_), .val (.int ((p0_ &&& (2147483647 : Int32)) % (9 : Int32))), .val (.ref b106), .val (.ref b114), .unset, .unset, .unset] [(.int ((p0_ &&& (2147483647 : Int32)) % (9 : Int32))), (.ref b133), (.ref b133)])) _
        refine XS.aload X133.here hx rfl (hb hby at_51) rfl rfl ?_
        show Steps p.tables e below (T133.setTop (mkF m 53 #[.val (.int p0_), .val (.int p1_), .val (.int p2_), .val (.int p3_), .val (.int ((p0_ &&& (2147483647 : Int32)) % (9 : Int32))), .val (.ref b106), .val (.ref b114), .unset, .unset, .unset] [(.ref b114), (.int ((p0_ &&& (2147483647 : Int32)) % (9 : Int32))), (.ref b133), (.ref b133)])) _
        refine XS.iloadN X133.here hx rfl (hb hby at_53) rfl ?_
        show Steps p.tables e below (T133.setTop (mkF m 54 #[.val (.int p0_), .val (.int p1_), .val (.int p2_), .val (.int p3_), .val (.int ((p0_ &&& (2147483647 : Int32)) % (9 : Int32))), .val (.ref b106), .val (.ref b114), .unset, .unset, .unset] [(.int p1_), (.ref b114), (.int ((p0_ &&& (2147483647 : Int32)) % (9 : Int32))), (.ref b133), (.ref b133)])) _
        refine st141.trans ?_
        show Steps p.tables e below (T141.setTop (mkF m 57 #[.val (.int p0_), .val (.int p1_), .val (.int p2_), .val (.int p3_), .val (.int ((p0_ &&& (2147483647 : Int32)) % (9 : Int32))), .val (.ref b106), .val (.ref b114), .unset, .unset, .unset] [(.ref b133)])) _
        refine XS.astore X141.here hx rfl (hb hby at_57) rfl rfl (l' := #[.val (.int p0_), .val (.int p1_), .val (.int p2_), .val (.int p3_), .val (.int ((p0_ &&& (2147483647 : Int32)) % (9 : Int32))), .val (.ref b106), .val (.ref b114), .val (.ref b133), .unset, .unset]) rfl ?_
        show Steps p.tables e below (T141.setTop (mkF m 59 #[.val (.int p0_), .val (.int p1_), .val (.int p2_), .val (.int p3_), .val (.int ((p0_ &&& (2147483647 : Int32)) % (9 : Int32))), .val (.ref b106), .val (.ref b114), .val (.ref b133), .unset, .unset] [])) _
        refine XS.aload X141.here hx rfl (hb hby at_59) rfl rfl ?_
        show Steps p.tables e below (T141.setTop (mkF m 61 #[.val (.int p0_), .val (.int p1_), .val (.int p2_), .val (.int p3_), .val (.int ((p0_ &&& (2147483647 : Int32)) % (9 : Int32))), .val (.ref b106), .val (.ref b114), .val (.ref b133), .unset, .unset] [(.ref b133)])) _
        refine st149.trans ?_
        show Steps p.tables e below (T149.setTop (mkF m 64 #[.val (.int p0_), .val (.int p1_), .val (.int p2_), .val (.int p3_), .val (.int ((p0_ &&& (2147483647 : Int32)) % (9 : Int32))), .val (.ref b106), .val (.ref b114), .val (.ref b133), .unset, .unset] [(.int (1 : Int32))])) _
        refine XS.istore X149.here hx rfl (hb hby at_64) rfl (l' := #[.val (.int p0_), .val (.int p1_), .val (.int p2_), .val (.int p3_), .val (.int ((p0_ &&& (2147483647 : Int32)) % (9 : Int32))), .val (.ref b106), .val (.ref b114), .val (.ref b133), .val (.int (1 : Int32)), .unset]) rfl ?_
        show Steps p.tables e below (T149.setTop (mkF m 66 #[.val (.int p0_), .val (.int p1_), .val (.int p2_), .val (.int p3_), .val (.int ((p0_ &&& (2147483647 : Int32)) % (9 : Int32))), .val (.ref b106), .val (.ref b114), .val (.ref b133), .val (.int (1 : Int32)), .unset] [])) _
        refine XS.iload X149.here hx rfl (hb hby at_66) rfl ?_
        show Steps p.tables e below (T149.setTop (mkF m 68 #[.val (.int p0_), .val (.int p1_), .val (.int p2_), .val (.int p3_), .val (.int ((p0_ &&& (2147483647 : Int32)) % (9 : Int32))), .val (.ref b106), .val (.ref b114), .val (.ref b133), .val (.int (1 : Int32)), .unset] [(.int ((p0_ &&& (2147483647 : Int32)) % (9 : Int32)))])) _
        refine XS.iconst X149.here hx rfl (hb hby at_68) ?_
        show Steps p.tables e below (T149.setTop (mkF m 69 #[.val (.int p0_), .val (.int p1_), .val (.int p2_), .val (.int p3_), .val (.int ((p0_ &&& (2147483647 : Int32)) % (9 : Int32))), .val (.ref b106), .val (.ref b114), .val (.ref b133), .val (.int (1 : Int32)), .unset] [(.int (1 : Int32)), (.int ((p0_ &&& (2147483647 : Int32)) % (9 : Int32)))])) _
        refine XS.icmpNo X149.here hx rfl (hb hby at_69) rfl (flt (by intro hz; have lt_0 : ((1 : Int32)).toInt = 1 := rfl; have lt_1 : ((2147483647 : Int32)).toInt = 2147483647 := rfl; have lt_2 : ((6 : Int32)).toInt = 6 := rfl; have lt_3 : ((8 : Int32)).toInt = 8 := rfl; have lt_4 : ((9 : Int32)).toInt = 9 := rfl; simp only [Int32.lt_iff_toInt_lt, Int64.lt_iff_toInt_lt, ← Int32.toInt_inj, ← Int64.toInt_inj] at hz hq149_1_0 hq149_1_1; omega)).1 ?_
        show Steps p.tables e below (T149.setTop (mkF m 72 #[.val (.int p0_), .val (.int p1_), .val (.int p2_), .val (.int p3_), .val (.int ((p0_ &&& (2147483647 : Int32)) % (9 : Int32))), .val (.ref b106), .val (.ref b114), .val (.ref b133), .val (.int (1 : Int32)), .unset] [])) _
        refine XS.iload X149.here hx rfl (hb hby at_72) rfl ?_
        show Steps p.tables e below (T149.setTop (mkF m 74 #[.val (.int p0_), .val (.int p1_), .val (.int p2_), .val (.int p3_), .val (.int ((p0_ &&& (2147483647 : Int32)) % (9 : Int32))), .val (.ref b106), .val (.ref b114), .val (.ref b133), .val (.int (1 : Int32)), .unset] [(.int ((p0_ &&& (2147483647 : Int32)) % (9 : Int32)))])) _
        refine XS.bipush X149.here hx rfl (hb hby at_74) ?_
        show Steps p.tables e below (T149.setTop (mkF m 76 #[.val (.int p0_), .val (.int p1_), .val (.int p2_), .val (.int p3_), .val (.int ((p0_ &&& (2147483647 : Int32)) % (9 : Int32))), .val (.ref b106), .val (.ref b114), .val (.ref b133), .val (.int (1 : Int32)), .unset] [(.int (8 : Int32)), (.int ((p0_ &&& (2147483647 : Int32)) % (9 : Int32)))])) _
        refine XS.icmpNo X149.here hx rfl (hb hby at_76) rfl (flt (by intro hz; have lt_0 : ((2147483647 : Int32)).toInt = 2147483647 := rfl; have lt_1 : ((6 : Int32)).toInt = 6 := rfl; have lt_2 : ((8 : Int32)).toInt = 8 := rfl; have lt_3 : ((9 : Int32)).toInt = 9 := rfl; simp only [Int32.lt_iff_toInt_lt, Int64.lt_iff_toInt_lt, ← Int32.toInt_inj, ← Int64.toInt_inj] at hz hq149_1_0 hq149_1_1; omega)).2.2.1 ?_
        show Steps p.tables e below (T149.setTop (mkF m 79 #[.val (.int p0_), .val (.int p1_), .val (.int p2_), .val (.int p3_), .val (.int ((p0_ &&& (2147483647 : Int32)) % (9 : Int32))), .val (.ref b106), .val (.ref b114), .val (.ref b133), .val (.int (1 : Int32)), .unset] [])) _
        refine XS.aload X149.here hx rfl (hb hby at_79) rfl rfl ?_
        show Steps p.tables e below (T149.setTop (mkF m 81 #[.val (.int p0_), .val (.int p1_), .val (.int p2_), .val (.int p3_), .val (.int ((p0_ &&& (2147483647 : Int32)) % (9 : Int32))), .val (.ref b106), .val (.ref b114), .val (.ref b133), .val (.int (1 : Int32)), .unset] [(.ref b133)])) _
        refine st166.trans ?_
        show Steps p.tables e below (T166.setTop (mkF m 84 #[.val (.int p0_), .val (.int p1_), .val (.int p2_), .val (.int p3_), .val (.int ((p0_ &&& (2147483647 : Int32)) % (9 : Int32))), .val (.ref b106), .val (.ref b114), .val (.ref b133), .val (.int (1 : Int32)), .unset] [(.ref w_REFERENCE)])) _
        refine st168 _ ?_
        show Steps p.tables e below (T168.setTop (mkF m 87 #[.val (.int p0_), .val (.int p1_), .val (.int p2_), .val (.int p3_), .val (.int ((p0_ &&& (2147483647 : Int32)) % (9 : Int32))), .val (.ref b106), .val (.ref b114), .val (.ref b133), .val (.int (1 : Int32)), .unset] [(.ref w_REFERENCE), (.ref w_REFERENCE)])) _
        refine Jvm.RoadKit.acmp (g := (mkF m 87 #[.val (.int p0_), .val (.int p1_), .val (.int p2_), .val (.int p3_), .val (.int ((p0_ &&& (2147483647 : Int32)) % (9 : Int32))), .val (.ref b106), .val (.ref b114), .val (.ref b133), .val (.int (1 : Int32)), .unset] [(.ref w_REFERENCE), (.ref w_REFERENCE)])) X168 hx rfl rfl rfl (pc0 := 87) (pc' := 90) (same := true) rfl (hb hby at_87) rfl (decide_eq_true rfl) (by decide) (by decide) ?_
        show Steps p.tables e below (T168.setTop (mkF m 90 #[.val (.int p0_), .val (.int p1_), .val (.int p2_), .val (.int p3_), .val (.int ((p0_ &&& (2147483647 : Int32)) % (9 : Int32))), .val (.ref b106), .val (.ref b114), .val (.ref b133), .val (.int (1 : Int32)), .unset] [])) _
        refine XS.aload X168.here hx rfl (hb hby at_90) rfl rfl ?_
        show Steps p.tables e below (T168.setTop (mkF m 92 #[.val (.int p0_), .val (.int p1_), .val (.int p2_), .val (.int p3_), .val (.int ((p0_ &&& (2147483647 : Int32)) % (9 : Int32))), .val (.ref b106), .val (.ref b114), .val (.ref b133), .val (.int (1 : Int32)), .unset] [(.ref b133)])) _
        refine st169.trans ?_
        show Steps p.tables e below (T169.setTop (mkF m 95 #[.val (.int p0_), .val (.int p1_), .val (.int p2_), .val (.int p3_), .val (.int ((p0_ &&& (2147483647 : Int32)) % (9 : Int32))), .val (.ref b106), .val (.ref b114), .val (.ref b133), .val (.int (1 : Int32)), .unset] [(.int (0 : Int32))])) _
        refine XS.ifNo X169.here hx rfl (hb hby at_95) rfl ((if0 _ _).trans (teq (by decide : (0 : Int32) = (0 : Int32))).2) ?_
        show Steps p.tables e below (T169.setTop (mkF m 98 #[.val (.int p0_), .val (.int p1_), .val (.int p2_), .val (.int p3_), .val (.int ((p0_ &&& (2147483647 : Int32)) % (9 : Int32))), .val (.ref b106), .val (.ref b114), .val (.ref b133), .val (.int (1 : Int32)), .unset] [])) _
        refine XS.iconst X169.here hx rfl (hb hby at_98) ?_
        show Steps p.tables e below (T169.setTop (mkF m 99 #[.val (.int p0_), .val (.int p1_), .val (.int p2_), .val (.int p3_), .val (.int ((p0_ &&& (2147483647 : Int32)) % (9 : Int32))), .val (.ref b106), .val (.ref b114), .val (.ref b133), .val (.int (1 : Int32)), .unset] [(.int (1 : Int32))])) _
        refine XS.goto X169.here hx rfl (pc0 := 99) (pc' := 103) rfl (hb hby at_99) (by decide) (by decide) ?_
        show Steps p.tables e below (T169.setTop (mkF m 103 #[.val (.int p0_), .val (.int p1_), .val (.int p2_), .val (.int p3_), .val (.int ((p0_ &&& (2147483647 : Int32)) % (9 : Int32))), .val (.ref b106), .val (.ref b114), .val (.ref b133), .val (.int (1 : Int32)), .unset] [(.int (1 : Int32))])) _
        refine XS.istore X169.here hx rfl (hb hby at_103) rfl (l' := #[.val (.int p0_), .val (.int p1_), .val (.int p2_), .val (.int p3_), .val (.int ((p0_ &&& (2147483647 : Int32)) % (9 : Int32))), .val (.ref b106), .val (.ref b114), .val (.ref b133), .val (.int (1 : Int32)), .val (.int (1 : Int32))]) rfl ?_
        show Steps p.tables e below (T169.setTop (mkF m 105 #[.val (.int p0_), .val (.int p1_), .val (.int p2_), .val (.int p3_), .val (.int ((p0_ &&& (2147483647 : Int32)) % (9 : Int32))), .val (.ref b106), .val (.ref b114), .val (.ref b133), .val (.int (1 : Int32)), .val (.int (1 : Int32))] [])) _
        refine XS.iload X169.here hx rfl (hb hby at_105) rfl ?_
        show Steps p.tables e below (T169.setTop (mkF m 107 #[.val (.int p0_), .val (.int p1_), .val (.int p2_), .val (.int p3_), .val (.int ((p0_ &&& (2147483647 : Int32)) % (9 : Int32))), .val (.ref b106), .val (.ref b114), .val (.ref b133), .val (.int (1 : Int32)), .val (.int (1 : Int32))] [(.int (1 : Int32))])) _
        refine XS.iload X169.here hx rfl (hb hby at_107) rfl ?_
        show Steps p.tables e below (T169.setTop (mkF m 109 #[.val (.int p0_), .val (.int p1_), .val (.int p2_), .val (.int p3_), .val (.int ((p0_ &&& (2147483647 : Int32)) % (9 : Int32))), .val (.ref b106), .val (.ref b114), .val (.ref b133), .val (.int (1 : Int32)), .val (.int (1 : Int32))] [(.int (1 : Int32)), (.int (1 : Int32))])) _
        refine XS.icmpNo X169.here hx rfl (hb hby at_109) rfl (teq (by decide : (1 : Int32) = (1 : Int32))).2 ?_
        show Steps p.tables e below (T169.setTop (mkF m 112 #[.val (.int p0_), .val (.int p1_), .val (.int p2_), .val (.int p3_), .val (.int ((p0_ &&& (2147483647 : Int32)) % (9 : Int32))), .val (.ref b106), .val (.ref b114), .val (.ref b133), .val (.int (1 : Int32)), .val (.int (1 : Int32))] [])) _
        refine XS.iconst X169.here hx rfl (hb hby at_112) ?_
        show Steps p.tables e below (T169.setTop (mkF m 113 #[.val (.int p0_), .val (.int p1_), .val (.int p2_), .val (.int p3_), .val (.int ((p0_ &&& (2147483647 : Int32)) % (9 : Int32))), .val (.ref b106), .val (.ref b114), .val (.ref b133), .val (.int (1 : Int32)), .val (.int (1 : Int32))] [(.int (1 : Int32))])) _
        refine XS.goto X169.here hx rfl (pc0 := 113) (pc' := 117) rfl (hb hby at_113) (by decide) (by decide) ?_
        exact kt
      obtain ⟨fs, hr, hrun, hended, hW, hsame⟩ := X169.leave (v := some (.int (1 : Int32))) (fun h => by rw [Bd.returns] at h; cases h)
      refine ⟨_, _, pre171 _ (retN X169 hx (t := .boolean) Bd.returns (by simp) (hb hby at_117) hr), hrun, hended, _, _, rfl, ?_, ⟨_, rfl⟩, hW, hsame.mono (by decide) (by decide)⟩
      show QLaw Z p0_ p1_ p2_ p3_ w_COMPACT_STRINGS w_LONG w_FLOAT w_DOUBLE w_REFERENCE w_INT h0 n0 _ T169.heap _
      rw [e169']
      exact ⟨rfl, N170⟩
    · have pre173 : ∀ t, Steps p.tables e below (T149.setTop (mkF m 69 #[.val (.int p0_), .val (.int p1_), .val (.int p2_), .val (.int p3_), .val (.int ((p0_ &&& (2147483647 : Int32)) % (9 : Int32))), .val (.ref b106), .val (.ref b114), .val (.ref b133), .val (.int (0 : Int32)), .unset] [(.int (1 : Int32)), (.int ((p0_ &&& (2147483647 : Int32)) % (9 : Int32)))])) t → Steps p.tables e below (s₁.setTop (entryFrame m #[(.int p0_), (.int p1_), (.int p2_), (.int p3_)] maxLocals)) t := by
        intro t kt
        refine pre1 t ?_
        show Steps p.tables e below (s₁.setTop (mkF m 3 #[.val (.int p0_), .val (.int p1_), .val (.int p2_), .val (.int p3_), .unset, .unset, .unset, .unset, .unset, .unset] [(.int (p3_ &&& (1 : Int32)))])) _
        refine XS.ifYes X0.here hx rfl (pc0 := 3) (pc' := 10) rfl (hb hby at_3) rfl ((if0 _ _).trans (feq hc2).2) (by decide) (by decide) ?_
        show Steps p.tables e below (s₁.setTop (mkF m 10 #[.val (.int p0_), .val (.int p1_), .val (.int p2_), .val (.int p3_), .unset, .unset, .unset, .unset, .unset, .unset] [])) _
        refine XS.iloadN X0.here hx rfl (hb hby at_10) rfl ?_
        show Steps p.tables e below (s₁.setTop (mkF m 11 #[.val (.int p0_), .val (.int p1_), .val (.int p2_), .val (.int p3_), .unset, .unset, .unset, .unset, .unset, .unset] [(.int p0_)])) _
        refine X0.ldcInt hx hown (mvT hZ (hw _ (List.mem_of_getElem? (i := 0) rfl))) (g := (mkF m 11 #[.val (.int p0_), .val (.int p1_), .val (.int p2_), .val (.int p3_), .unset, .unset, .unset, .unset, .unset, .unset] [(.int p0_)])) rfl (hb hby at_11) _ ?_
        show Steps p.tables e below (s₁.setTop (mkF m 13 #[.val (.int p0_), .val (.int p1_), .val (.int p2_), .val (.int p3_), .unset, .unset, .unset, .unset, .unset, .unset] [(.int (2147483647 : Int32)), (.int p0_)])) _
        refine XS.iand X0.here hx rfl (hb hby at_13) rfl ?_
        show Steps p.tables e below (s₁.setTop (mkF m 14 #[.val (.int p0_), .val (.int p1_), .val (.int p2_), .val (.int p3_), .unset, .unset, .unset, .unset, .unset, .unset] [(.int (p0_ &&& (2147483647 : Int32)))])) _
        refine XS.bipush X0.here hx rfl (hb hby at_14) ?_
        show Steps p.tables e below (s₁.setTop (mkF m 16 #[.val (.int p0_), .val (.int p1_), .val (.int p2_), .val (.int p3_), .unset, .unset, .unset, .unset, .unset, .unset] [(.int (9 : Int32)), (.int (p0_ &&& (2147483647 : Int32)))])) _
        refine iremM (g := (mkF m 16 #[.val (.int p0_), .val (.int p1_), .val (.int p2_), .val (.int p3_), .unset, .unset, .unset, .unset, .unset, .unset] [(.int (9 : Int32)), (.int (p0_ &&& (2147483647 : Int32)))])) X0 hx rfl (hb hby at_16) rfl (by decide) ?_
        show Steps p.tables e below (s₁.setTop (mkF m 17 #[.val (.int p0_), .val (.int p1_), .val (.int p2_), .val (.int p3_), .unset, .unset, .unset, .unset, .unset, .unset] [(.int ((p0_ &&& (2147483647 : Int32)) % (9 : Int32)))])) _
        refine XS.istore X0.here hx rfl (hb hby at_17) rfl (l' := #[.val (.int p0_), .val (.int p1_), .val (.int p2_), .val (.int p3_), .val (.int ((p0_ &&& (2147483647 : Int32)) % (9 : Int32))), .unset, .unset, .unset, .unset, .unset]) rfl ?_
        show Steps p.tables e below (s₁.setTop (mkF m 19 #[.val (.int p0_), .val (.int p1_), .val (.int p2_), .val (.int p3_), .val (.int ((p0_ &&& (2147483647 : Int32)) % (9 : Int32))), .unset, .unset, .unset, .unset, .unset] [])) _
        refine XS.iconst X0.here hx rfl (hb hby at_19) ?_
        show Steps p.tables e below (s₁.setTop (mkF m 20 #[.val (.int p0_), .val (.int p1_), .val (.int p2_), .val (.int p3_), .val (.int ((p0_ &&& (2147483647 : Int32)) % (9 : Int32))), .unset, .unset, .unset, .unset, .unset] [(.int (1 : Int32))])) _
        refine st106 _ ?_
        show Steps p.tables e below (T106.setTop (mkF m 22 #[.val (.int p0_), .val (.int p1_), .val (.int p2_), .val (.int p3_), .val (.int ((p0_ &&& (2147483647 : Int32)) % (9 : Int32))), .unset, .unset, .unset, .unset, .unset] [(.ref b106)])) _
        refine XS.astore X106.here hx rfl (hb hby at_22) rfl rfl (l' := #[.val (.int p0_), .val (.int p1_), .val (.int p2_), .val (.int p3_), .val (.int ((p0_ &&& (2147483647 : Int32)) % (9 : Int32))), .val (.ref b106), .unset, .unset, .unset, .unset]) rfl ?_
        show Steps p.tables e below (T106.setTop (mkF m 24 #[.val (.int p0_), .val (.int p1_), .val (.int p2_), .val (.int p3_), .val (.int ((p0_ &&& (2147483647 : Int32)) % (9 : Int32))), .val (.ref b106), .unset, .unset, .unset, .unset] [])) _
        refine XS.aload X106.here hx rfl (hb hby at_24) rfl rfl ?_
        show Steps p.tables e below (T106.setTop (mkF m 26 #[.val (.int p0_), .val (.int p1_), .val (.int p2_), .val (.int p3_), .val (.int ((p0_ &&& (2147483647 : Int32)) % (9 : Int32))), .val (.ref b106), .unset, .unset, .unset, .unset] [(.ref b106)])) _
        refine XS.iconst X106.here hx rfl (hb hby at_26) ?_
        show Steps p.tables e below (T106.setTop (mkF m 27 #[.val (.int p0_), .val (.int p1_), .val (.int p2_), .val (.int p3_), .val (.int ((p0_ &&& (2147483647 : Int32)) % (9 : Int32))), .val (.ref b106), .unset, .unset, .unset, .unset] [(.int (0 : Int32)), (.ref b106)])) _
        refine XS.iloadN X106.here hx rfl (hb hby at_27) rfl ?_
        show Steps p.tables e below (T106.setTop (mkF m 28 #[.val (.int p0_), .val (.int p1_), .val (.int p2_), .val (.int p3_), .val (.int ((p0_ &&& (2147483647 : Int32)) % (9 : Int32))), .val (.ref b106), .unset, .unset, .unset, .unset] [(.int p2_), (.int (0 : Int32)), (.ref b106)])) _
        refine XS.sipush X106.here hx rfl (hb hby at_28) ?_
        show Steps p.tables e below (T106.setTop (mkF m 31 #[.val (.int p0_), .val (.int p1_), .val (.int p2_), .val (.int p3_), .val (.int ((p0_ &&& (2147483647 : Int32)) % (9 : Int32))), .val (.ref b106), .unset, .unset, .unset, .unset] [(.int (255 : Int32)), (.int p2_), (.int (0 : Int32)), (.ref b106)])) _
        refine XS.iand X106.here hx rfl (hb hby at_31) rfl ?_
        show Steps p.tables e below (T106.setTop (mkF m 32 #[.val (.int p0_), .val (.int p1_), .val (.int p2_), .val (.int p3_), .val (.int ((p0_ &&& (2147483647 : Int32)) % (9 : Int32))), .val (.ref b106), .unset, .unset, .unset, .unset] [(.int (p2_ &&& (255 : Int32))), (.int (0 : Int32)), (.ref b106)])) _
        refine XS.i2c X106.here hx rfl (hb hby at_32) rfl ?_
        show Steps p.tables e below (T106.setTop (mkF m 33 #[.val (.int p0_), .val (.int p1_), .val (.int p2_), .val (.int p3_), .val (.int ((p0_ &&& (2147483647 : Int32)) % (9 : Int32))), .val (.ref b106), .unset, .unset, .unset, .unset] [(.int ((p2_ &&& (255 : Int32)).toUInt32.toUInt16.toUInt32.toInt32)), (.int (0 : Int32)), (.ref b106)])) _
        rw [i2c_mask]
        show Steps p.tables e below (T106.setTop (mkF m 33 #[.val (.int p0_), .val (.int p1_), .val (.int p2_), .val (.int p3_), .val (.int ((p0_ &&& (2147483647 : Int32)) % (9 : Int32))), .val (.ref b106), .unset, .unset, .unset, .unset] [(.int (p2_ &&& (255 : Int32))), (.int (0 : Int32)), (.ref b106)])) _
        refine st110 _ ?_
        show Steps p.tables e below (T110.setTop (mkF m 34 #[.val (.int p0_), .val (.int p1_), .val (.int p2_), .val (.int p3_), .val (.int ((p0_ &&& (2147483647 : Int32)) % (9 : Int32))), .val (.ref b106), .unset, .unset, .unset, .unset] [])) _
        refine st114 _ ?_
        show Steps p.tables e below (T114.setTop (mkF m 37 #[.val (.int p0_), .val (.int p1_), .val (.int p2_), .val (.int p3_), .val (.int ((p0_ &&& (2147483647 : Int32)) % (9 : Int32))), .val (.ref b106), .unset, .unset, .unset, .unset] [(.ref b114)])) _
        refine XS.dup X114.here hx rfl (hb hby at_37) rfl rfl ?_
        show Steps p.tables e below (T114.setTop (mkF m 38 #[.val (.int p0_), .val (.int p1_), .val (.int p2_), .val (.int p3_), .val (.int ((p0_ &&& (2147483647 : Int32)) % (9 : Int32))), .val (.ref b106), .unset, .unset, .unset, .unset] [(.ref b114), (.ref b114)])) _
        refine XS.aload X114.here hx rfl (hb hby at_38) rfl rfl ?_
        show Steps p.tables e below (T114.setTop (mkF m 40 #[.val (.int p0_), .val (.int p1_), .val (.int p2_), .val (.int p3_), .val (.int ((p0_ &&& (2147483647 : Int32)) % (9 : Int32))), .val (.ref b106), .unset, .unset, .unset, .unset] [(.ref b106), (.ref b114), (.ref b114)])) _
        refine st124.trans ?_
        show Steps p.tables e below (T124.setTop (mkF m 43 #[.val (.int p0_), .val (.int p1_), .val (.int p2_), .val (.int p3_), .val (.int ((p0_ &&& (2147483647 : Int32)) % (9 : Int32))), .val (.ref b106), .unset, .unset, .unset, .unset] [(.ref b114)])) _
        refine XS.astore X124.here hx rfl (hb hby at_43) rfl rfl (l' := #[.val (.int p0_), .val (.int p1_), .val (.int p2_), .val (.int p3_), .val (.int ((p0_ &&& (2147483647 : Int32)) % (9 : Int32))), .val (.ref b106), .val (.ref b114), .unset, .unset, .unset]) rfl ?_
        show Steps p.tables e below (T124.setTop (mkF m 45 #[.val (.int p0_), .val (.int p1_), .val (.int p2_), .val (.int p3_), .val (.int ((p0_ &&& (2147483647 : Int32)) % (9 : Int32))), .val (.ref b106), .val (.ref b114), .unset, .unset, .unset] [])) _
        refine st133 _ ?_
        show Steps p.tables e below (T133.setTop (mkF m 48 #[.val (.int p0_), .val (.int p1_), .val (.int p2_), .val (.int p3_), .val (.int ((p0_ &&& (2147483647 : Int32)) % (9 : Int32))), .val (.ref b106), .val (.ref b114), .unset, .unset, .unset] [(.ref b133)])) _
        refine XS.dup X133.here hx rfl (hb hby at_48) rfl rfl ?_
        show Steps p.tables e below (T133.setTop (mkF m 49 #[.val (.int p0_), .val (.int p1_), .val (.int p2_), .val (.int p3_), .val (.int ((p0_ &&& (2147483647 : Int32)) % (9 : Int32))), .val (.ref b106), .val (.ref b114), .unset, .unset, .unset] [(.ref b133), (.ref b133)])) _
        refine XS.iload X133.here hx rfl (hb hby at_49) rfl ?_
        show Steps p.tables e below (T133.setTop (mkF m 51 #[.val (.int p0_), .val (.int p1_), .val (.int p2_), .val (.int p3_), .val (.int ((p0_ &&& (2147483647 : Int32)) % (9 : Int32))), .val (.ref b106), .val (.ref b114), .unset, .unset, .unset] [(.int ((p0_ &&& (2147483647 : Int32)) % (9 : Int32))), (.ref b133), (.ref b133)])) _
        refine XS.aload X133.here hx rfl (hb hby at_51) rfl rfl ?_
        show Steps p.tables e below (T133.setTop (mkF m 53 #[.val (.int p0_), .val (.int p1_), .val (.int p2_), .val (.int p3_), .val (.int ((p0_ &&& (2147483647 : Int32)) % (9 : Int32))), .val (.ref b106), .val (.ref b114), .unset, .unset, .unset] [(.ref b114), (.int ((p0_ &&& (2147483647 : Int32)) % (9 : Int32))), (.ref b133), (.ref b133)])) _
        refine XS.iloadN X133.here hx rfl (hb hby at_53) rfl ?_
        show Steps p.tables e below (T133.setTop (mkF m 54 #[.val (.int p0_), .val (.int p1_), .val (.int p2_), .val (.int p3_), .val (.int ((p0_ &&& (2147483647 : Int32)) % (9 : Int32))), .val (.ref b106), .val (.ref b114), .unset, .unset, .unset] [(.int p1_), (.ref b114), (.int ((p0_ &&& (2147483647 : Int32)) % (9 : Int32))), (.ref b133), (.ref b133)])) _
        refine st141.trans ?_
        show Steps p.tables e below (T141.setTop (mkF m 57 #[.val (.int p0_), .val (.int p1_), .val (.int p2_), .val (.int p3_), .val (.int ((p0_ &&& (2147483647 : Int32)) % (9 : Int32))), .val (.ref b106), .val (.ref b114), .unset, .unset, .unset] [(.ref b133)])) _
        refine XS.astore X141.here hx rfl (hb hby at_57) rfl rfl (l' := #[.val (.int p0_), .val (.int p1_), .val (.int p2_), .val (.int p3_), .val (.int ((p0_ &&& (2147483647 : Int32)) % (9 : Int32))), .val (.ref b106), .val (.ref b114), .val (.ref b133), .unset, .unset]) rfl ?_
        show Steps p.tables e below (T141.setTop (mkF m 59 #[.val (.int p0_), .val (.int p1_), .val (.int p2_), .val (.int p3_), .val (.int ((p0_ &&& (2147483647 : Int32)) % (9 : Int32))), .val (.ref b106), .val (.ref b114), .val (.ref b133), .unset, .unset] [])) _
        refine XS.aload X141.here hx rfl (hb hby at_59) rfl rfl ?_
        show Steps p.tables e below (T141.setTop (mkF m 61 #[.val (.int p0_), .val (.int p1_), .val (.int p2_), .val (.int p3_), .val (.int ((p0_ &&& (2147483647 : Int32)) % (9 : Int32))), .val (.ref b106), .val (.ref b114), .val (.ref b133), .unset, .unset] [(.ref b133)])) _
        refine st149.trans ?_
        show Steps p.tables e below (T149.setTop (mkF m 64 #[.val (.int p0_), .val (.int p1_), .val (.int p2_), .val (.int p3_), .val (.int ((p0_ &&& (2147483647 : Int32)) % (9 : Int32))), .val (.ref b106), .val (.ref b114), .val (.ref b133), .unset, .unset] [(.int (0 : Int32))])) _
        refine XS.istore X149.here hx rfl (hb hby at_64) rfl (l' := #[.val (.int p0_), .val (.int p1_), .val (.int p2_), .val (.int p3_), .val (.int ((p0_ &&& (2147483647 : Int32)) % (9 : Int32))), .val (.ref b106), .val (.ref b114), .val (.ref b133), .val (.int (0 : Int32)), .unset]) rfl ?_
        show Steps p.tables e below (T149.setTop (mkF m 66 #[.val (.int p0_), .val (.int p1_), .val (.int p2_), .val (.int p3_), .val (.int ((p0_ &&& (2147483647 : Int32)) % (9 : Int32))), .val (.ref b106), .val (.ref b114), .val (.ref b133), .val (.int (0 : Int32)), .unset] [])) _
        refine XS.iload X149.here hx rfl (hb hby at_66) rfl ?_
        show Steps p.tables e below (T149.setTop (mkF m 68 #[.val (.int p0_), .val (.int p1_), .val (.int p2_), .val (.int p3_), .val (.int ((p0_ &&& (2147483647 : Int32)) % (9 : Int32))), .val (.ref b106), .val (.ref b114), .val (.ref b133), .val (.int (0 : Int32)), .unset] [(.int ((p0_ &&& (2147483647 : Int32)) % (9 : Int32)))])) _
        refine XS.iconst X149.here hx rfl (hb hby at_68) ?_
        exact kt
      by_cases hc174 : ((p0_ &&& (2147483647 : Int32)) % (9 : Int32)) < (1 : Int32)
      · have pre175 : ∀ t, Steps p.tables e below (T149.setTop (mkF m 128 #[.val (.int p0_), .val (.int p1_), .val (.int p2_), .val (.int p3_), .val (.int ((p0_ &&& (2147483647 : Int32)) % (9 : Int32))), .val (.ref b106), .val (.ref b114), .val (.ref b133), .val (.int (0 : Int32)), .unset] [(.int (1 : Int32))])) t → Steps p.tables e below (s₁.setTop (entryFrame m #[(.int p0_), (.int p1_), (.int p2_), (.int p3_)] maxLocals)) t := by
          intro t kt
          refine pre173 t ?_
          show Steps p.tables e below (T149.setTop (mkF m 69 #[.val (.int p0_), .val (.int p1_), .val (.int p2_), .val (.int p3_), .val (.int ((p0_ &&& (2147483647 : Int32)) % (9 : Int32))), .val (.ref b106), .val (.ref b114), .val (.ref b133), .val (.int (0 : Int32)), .unset] [(.int (1 : Int32)), (.int ((p0_ &&& (2147483647 : Int32)) % (9 : Int32)))])) _
          refine XS.icmpYes X149.here hx rfl (pc0 := 69) (pc' := 118) rfl (hb hby at_69) rfl (tlt hc174).1 (by decide) (by decide) ?_
          show Steps p.tables e below (T149.setTop (mkF m 118 #[.val (.int p0_), .val (.int p1_), .val (.int p2_), .val (.int p3_), .val (.int ((p0_ &&& (2147483647 : Int32)) % (9 : Int32))), .val (.ref b106), .val (.ref b114), .val (.ref b133), .val (.int (0 : Int32)), .unset] [])) _
          refine XS.iload X149.here hx rfl (hb hby at_118) rfl ?_
          show Steps p.tables e below (T149.setTop (mkF m 120 #[.val (.int p0_), .val (.int p1_), .val (.int p2_), .val (.int p3_), .val (.int ((p0_ &&& (2147483647 : Int32)) % (9 : Int32))), .val (.ref b106), .val (.ref b114), .val (.ref b133), .val (.int (0 : Int32)), .unset] [(.int (0 : Int32))])) _
          refine XS.ifNo X149.here hx rfl (hb hby at_120) rfl ((if0 _ _).trans (teq (by decide : (0 : Int32) = (0 : Int32))).2) ?_
          show Steps p.tables e below (T149.setTop (mkF m 123 #[.val (.int p0_), .val (.int p1_), .val (.int p2_), .val (.int p3_), .val (.int ((p0_ &&& (2147483647 : Int32)) % (9 : Int32))), .val (.ref b106), .val (.ref b114), .val (.ref b133), .val (.int (0 : Int32)), .unset] [])) _
          refine XS.iconst X149.here hx rfl (hb hby at_123) ?_
          show Steps p.tables e below (T149.setTop (mkF m 124 #[.val (.int p0_), .val (.int p1_), .val (.int p2_), .val (.int p3_), .val (.int ((p0_ &&& (2147483647 : Int32)) % (9 : Int32))), .val (.ref b106), .val (.ref b114), .val (.ref b133), .val (.int (0 : Int32)), .unset] [(.int (1 : Int32))])) _
          refine XS.goto X149.here hx rfl (pc0 := 124) (pc' := 128) rfl (hb hby at_124) (by decide) (by decide) ?_
          exact kt
        obtain ⟨fs, hr, hrun, hended, hW, hsame⟩ := X149.leave (v := some (.int (1 : Int32))) (fun h => by rw [Bd.returns] at h; cases h)
        refine ⟨_, _, pre175 _ (retN X149 hx (t := .boolean) Bd.returns (by simp) (hb hby at_128) hr), hrun, hended, _, _, rfl, ?_, ⟨_, rfl⟩, hW, hsame.mono (by decide) (by decide)⟩
        show QLaw Z p0_ p1_ p2_ p3_ w_COMPACT_STRINGS w_LONG w_FLOAT w_DOUBLE w_REFERENCE w_INT h0 n0 _ T149.heap _
        rw [e149']
        exact ⟨rfl, N158⟩
      · have pre177 : ∀ t, Steps p.tables e below (T149.setTop (mkF m 76 #[.val (.int p0_), .val (.int p1_), .val (.int p2_), .val (.int p3_), .val (.int ((p0_ &&& (2147483647 : Int32)) % (9 : Int32))), .val (.ref b106), .val (.ref b114), .val (.ref b133), .val (.int (0 : Int32)), .unset] [(.int (8 : Int32)), (.int ((p0_ &&& (2147483647 : Int32)) % (9 : Int32)))])) t → Steps p.tables e below (s₁.setTop (entryFrame m #[(.int p0_), (.int p1_), (.int p2_), (.int p3_)] maxLocals)) t := by
          intro t kt
          refine pre173 t ?_
          show Steps p.tables e below (T149.setTop (mkF m 69 #[.val (.int p0_), .val (.int p1_), .val (.int p2_), .val (.int p3_), .val (.int ((p0_ &&& (2147483647 : Int32)) % (9 : Int32))), .val (.ref b106), .val (.ref b114), .val (.ref b133), .val (.int (0 : Int32)), .unset] [(.int (1 : Int32)), (.int ((p0_ &&& (2147483647 : Int32)) % (9 : Int32)))])) _
          refine XS.icmpNo X149.here hx rfl (hb hby at_69) rfl (flt hc174).1 ?_
          show Steps p.tables e below (T149.setTop (mkF m 72 #[.val (.int p0_), .val (.int p1_), .val (.int p2_), .val (.int p3_), .val (.int ((p0_ &&& (2147483647 : Int32)) % (9 : Int32))), .val (.ref b106), .val (.ref b114), .val (.ref b133), .val (.int (0 : Int32)), .unset] [])) _
          refine XS.iload X149.here hx rfl (hb hby at_72) rfl ?_
          show Steps p.tables e below (T149.setTop (mkF m 74 #[.val (.int p0_), .val (.int p1_), .val (.int p2_), .val (.int p3_), .val (.int ((p0_ &&& (2147483647 : Int32)) % (9 : Int32))), .val (.ref b106), .val (.ref b114), .val (.ref b133), .val (.int (0 : Int32)), .unset] [(.int ((p0_ &&& (2147483647 : Int32)) % (9 : Int32)))])) _
          refine XS.bipush X149.here hx rfl (hb hby at_74) ?_
          exact kt
        by_cases hc178 : (8 : Int32) < ((p0_ &&& (2147483647 : Int32)) % (9 : Int32))
        · have pre179 : ∀ t, Steps p.tables e below (T149.setTop (mkF m 128 #[.val (.int p0_), .val (.int p1_), .val (.int p2_), .val (.int p3_), .val (.int ((p0_ &&& (2147483647 : Int32)) % (9 : Int32))), .val (.ref b106), .val (.ref b114), .val (.ref b133), .val (.int (0 : Int32)), .unset] [(.int (1 : Int32))])) t → Steps p.tables e below (s₁.setTop (entryFrame m #[(.int p0_), (.int p1_), (.int p2_), (.int p3_)] maxLocals)) t := by
            intro t kt
            refine pre177 t ?_
            show Steps p.tables e below (T149.setTop (mkF m 76 #[.val (.int p0_), .val (.int p1_), .val (.int p2_), .val (.int p3_), .val (.int ((p0_ &&& (2147483647 : Int32)) % (9 : Int32))), .val (.ref b106), .val (.ref b114), .val (.ref b133), .val (.int (0 : Int32)), .unset] [(.int (8 : Int32)), (.int ((p0_ &&& (2147483647 : Int32)) % (9 : Int32)))])) _
            refine XS.icmpYes X149.here hx rfl (pc0 := 76) (pc' := 118) rfl (hb hby at_76) rfl (tlt hc178).2.2.1 (by decide) (by decide) ?_
            show Steps p.tables e below (T149.setTop (mkF m 118 #[.val (.int p0_), .val (.int p1_), .val (.int p2_), .val (.int p3_), .val (.int ((p0_ &&& (2147483647 : Int32)) % (9 : Int32))), .val (.ref b106), .val (.ref b114), .val (.ref b133), .val (.int (0 : Int32)), .unset] [])) _
            refine XS.iload X149.here hx rfl (hb hby at_118) rfl ?_
            show Steps p.tables e below (T149.setTop (mkF m 120 #[.val (.int p0_), .val (.int p1_), .val (.int p2_), .val (.int p3_), .val (.int ((p0_ &&& (2147483647 : Int32)) % (9 : Int32))), .val (.ref b106), .val (.ref b114), .val (.ref b133), .val (.int (0 : Int32)), .unset] [(.int (0 : Int32))])) _
            refine XS.ifNo X149.here hx rfl (hb hby at_120) rfl ((if0 _ _).trans (teq (by decide : (0 : Int32) = (0 : Int32))).2) ?_
            show Steps p.tables e below (T149.setTop (mkF m 123 #[.val (.int p0_), .val (.int p1_), .val (.int p2_), .val (.int p3_), .val (.int ((p0_ &&& (2147483647 : Int32)) % (9 : Int32))), .val (.ref b106), .val (.ref b114), .val (.ref b133), .val (.int (0 : Int32)), .unset] [])) _
            refine XS.iconst X149.here hx rfl (hb hby at_123) ?_
            show Steps p.tables e below (T149.setTop (mkF m 124 #[.val (.int p0_), .val (.int p1_), .val (.int p2_), .val (.int p3_), .val (.int ((p0_ &&& (2147483647 : Int32)) % (9 : Int32))), .val (.ref b106), .val (.ref b114), .val (.ref b133), .val (.int (0 : Int32)), .unset] [(.int (1 : Int32))])) _
            refine XS.goto X149.here hx rfl (pc0 := 124) (pc' := 128) rfl (hb hby at_124) (by decide) (by decide) ?_
            exact kt
          obtain ⟨fs, hr, hrun, hended, hW, hsame⟩ := X149.leave (v := some (.int (1 : Int32))) (fun h => by rw [Bd.returns] at h; cases h)
          refine ⟨_, _, pre179 _ (retN X149 hx (t := .boolean) Bd.returns (by simp) (hb hby at_128) hr), hrun, hended, _, _, rfl, ?_, ⟨_, rfl⟩, hW, hsame.mono (by decide) (by decide)⟩
          show QLaw Z p0_ p1_ p2_ p3_ w_COMPACT_STRINGS w_LONG w_FLOAT w_DOUBLE w_REFERENCE w_INT h0 n0 _ T149.heap _
          rw [e149']
          exact ⟨rfl, N158⟩
        · obtain ⟨cq181, kq181, q181a, q181b, q181c⟩ := isOf hZ e149' g141_0
          obtain ⟨_, _, ⟨T181, L181, k181, n181⟩, -, X181, ⟨Lc181, hQ181, l181, y181, z181⟩, st181⟩ := X149.virtualBack hx (y := (⟨"com/example/stackweave/stackweave/classfile/VerificationType", "kind", "()Lcom/example/stackweave/stackweave/classfile/ValueKind;"⟩ : MethodName)) (z := (⟨"com/example/stackweave/stackweave/classfile/VerificationType", "kind", "()Lcom/example/stackweave/stackweave/classfile/ValueKind;"⟩ : MethodName)) hown (mvT hZ (hw _ (List.mem_of_getElem? (i := 54) rfl))) (mvT hZ (hw _ (List.mem_of_getElem? (i := 55) rfl))) (notFace_of_selects (args := #[]) (mvT hZ (hw _ (List.mem_of_getElem? (i := 57) rfl)))) (mvT hZ (hw _ (List.mem_of_getElem? (i := 57) rfl))) (mvT hZ (hw _ (List.mem_of_getElem? (i := 56) rfl))) (by decide) (backOf (W := 0) (rmkind14 l Z a0 hw [] b133 ((p0_ &&& (2147483647 : Int32)) % (9 : Int32)) b114 p1_ nnnb1_3_2_124 k1_3_2_124 ((p2_ &&& (255 : Int32)).toInt8.toInt32) w_INT w_FLOAT w_DOUBLE w_LONG w_REFERENCE h141 n0 f157 hq149_2_0 hq149_2_1 hc174 hc178 g141_0 g141_1 g141_2 g141_3 f150 f151 f153 f154 f156 P2 P12 P1 P8 P15 P7 P6 P14 P5 P10 P16 P9 P4 P13 P3) hZ (hw _ (List.mem_of_getElem? (i := 58) rfl)) (hw _ (List.mem_of_getElem? (i := 33) rfl)) (by decide) (by decide)) q181a q181c (g := (mkF m 81 #[.val (.int p0_), .val (.int p1_), .val (.int p2_), .val (.int p3_), .val (.int ((p0_ &&& (2147483647 : Int32)) % (9 : Int32))), .val (.ref b106), .val (.ref b114), .val (.ref b133), .val (.int (0 : Int32)), .unset] [(.ref b133)])) rfl (by rw [hml]; rfl) (Steps.refl _) (argsL := []) (rest := []) (lenOf pd_8 rfl) rfl (by show 2 * 0 + _ ≤ _; exact Nat.le_of_eq rfl) (hb hby at_81) (fun _ _ => ⟨rfl, e149', (by decide : 4 + 0 ≤ _), (by decide : 9 + 0 ≤ _)⟩)
          dsimp only [Pt.U, Pt.locs, Pt.cells, Pt.slots] at X181 l181 y181 z181 st181 hQ181
          subst l181 y181 z181
          obtain ⟨h181, e181⟩ : ∃ z, T181.heap = z := ⟨_, rfl⟩
          rw [e181] at hQ181
          obtain ⟨rr181, rfl, hs181, N181q, hh181⟩ := hQ181
          have N182 := Fr.app N158 N181q
          have e181' : T181.heap = h141 := e181.trans hh181
          rcases hs181 with ⟨rfl, hq181_0_0⟩ | ⟨rfl, hq181_1_0, hq181_1_1⟩ | ⟨rfl, hq181_2_0, hq181_2_1, hq181_2_2⟩ | ⟨rfl, hq181_3_0, hq181_3_1, hq181_3_2, hq181_3_3⟩ | ⟨rfl, hq181_4_0, hq181_4_1, hq181_4_2, hq181_4_3, hq181_4_4⟩ | ⟨rfl, hq181_5_0, hq181_5_1, hq181_5_2, hq181_5_3, hq181_5_4, hq181_5_5⟩
          · obtain ⟨T183, X183, e183, st183⟩ := getS2 X181 hx hZ hown (host := "") (Or.inl (hw _ (List.mem_of_getElem? (i := 62) rfl))) Via.refl e181' (P3.ext f157.2) (g := (mkF m 84 #[.val (.int p0_), .val (.int p1_), .val (.int p2_), .val (.int p3_), .val (.int ((p0_ &&& (2147483647 : Int32)) % (9 : Int32))), .val (.ref b106), .val (.ref b114), .val (.ref b133), .val (.int (0 : Int32)), .unset] [(.ref w_INT)])) rfl (hb hby at_84)
            have ne184 : w_INT ≠ w_REFERENCE := Fld.ne P12 P13 (fun q => absurd (Value.int.inj q) (by decide))
            have pre185 : ∀ t, Steps p.tables e below (T183.setTop (mkF m 117 #[.val (.int p0_), .val (.int p1_), .val (.int p2_), .val (.int p3_), .val (.int ((p0_ &&& (2147483647 : Int32)) % (9 : Int32))), .val (.ref b106), .val (.ref b114), .val (.ref b133), .val (.int (0 : Int32)), .val (.int (0 : Int32))] [(.int (1 : Int32))])) t → Steps p.tables e below (s₁.setTop (entryFrame m #[(.int p0_), (.int p1_), (.int p2_), (.int p3_)] maxLocals)) t := by
              intro t kt
              refine pre177 t ?_
              show Steps p.tables e below (T149.setTop (mkF m 76 #[.val (.int p0_), .val (.int p1_), .val (.int p2_), .val (.int p3_), .val (.int ((p0_ &&& (2147483647 : Int32)) % (9 : Int32))), .val (.ref b106), .val (.ref b114), .val (.ref b133), .val (.int (0 : Int32)), .unset] [(.int (8 : Int32)), (.int ((p0_ &&& (2147483647 : Int32)) % (9 : Int32)))])) _
              refine XS.icmpNo X149.here hx rfl (hb hby at_76) rfl (flt hc178).2.2.1 ?_
              show Steps p.tables e below (T149.setTop (mkF m 79 #[.val (.int p0_), .val (.int p1_), .val (.int p2_), .val (.int p3_), .val (.int ((p0_ &&& (2147483647 : Int32)) % (9 : Int32))), .val (.ref b106), .val (.ref b114), .val (.ref b133), .val (.int (0 : Int32)), .unset] [])) _
              refine XS.aload X149.here hx rfl (hb hby at_79) rfl rfl ?_
              show Steps p.tables e below (T149.setTop (mkF m 81 #[.val (.int p0_), .val (.int p1_), .val (.int p2_), .val (.int p3_), .val (.int ((p0_ &&& (2147483647 : Int32)) % (9 : Int32))), .val (.ref b106), .val (.ref b114), .val (.ref b133), .val (.int (0 : Int32)), .unset] [(.ref b133)])) _
              refine st181.trans ?_
              show Steps p.tables e below (T181.setTop (mkF m 84 #[.val (.int p0_), .val (.int p1_), .val (.int p2_), .val (.int p3_), .val (.int ((p0_ &&& (2147483647 : Int32)) % (9 : Int32))), .val (.ref b106), .val (.ref b114), .val (.ref b133), .val (.int (0 : Int32)), .unset] [(.ref w_INT)])) _
              refine st183 _ ?_
              show Steps p.tables e below (T183.setTop (mkF m 87 #[.val (.int p0_), .val (.int p1_), .val (.int p2_), .val (.int p3_), .val (.int ((p0_ &&& (2147483647 : Int32)) % (9 : Int32))), .val (.ref b106), .val (.ref b114), .val (.ref b133), .val (.int (0 : Int32)), .unset] [(.ref w_REFERENCE), (.ref w_INT)])) _
              refine Jvm.RoadKit.acmp (g := (mkF m 87 #[.val (.int p0_), .val (.int p1_), .val (.int p2_), .val (.int p3_), .val (.int ((p0_ &&& (2147483647 : Int32)) % (9 : Int32))), .val (.ref b106), .val (.ref b114), .val (.ref b133), .val (.int (0 : Int32)), .unset] [(.ref w_REFERENCE), (.ref w_INT)])) X183 hx rfl rfl rfl (pc0 := 87) (pc' := 102) (same := false) rfl (hb hby at_87) rfl (decide_eq_false fun q => ne184 (Value.ref.inj q)) (by decide) (by decide) ?_
              show Steps p.tables e below (T183.setTop (mkF m 102 #[.val (.int p0_), .val (.int p1_), .val (.int p2_), .val (.int p3_), .val (.int ((p0_ &&& (2147483647 : Int32)) % (9 : Int32))), .val (.ref b106), .val (.ref b114), .val (.ref b133), .val (.int (0 : Int32)), .unset] [])) _
              refine XS.iconst X183.here hx rfl (hb hby at_102) ?_
              show Steps p.tables e below (T183.setTop (mkF m 103 #[.val (.int p0_), .val (.int p1_), .val (.int p2_), .val (.int p3_), .val (.int ((p0_ &&& (2147483647 : Int32)) % (9 : Int32))), .val (.ref b106), .val (.ref b114), .val (.ref b133), .val (.int (0 : Int32)), .unset] [(.int (0 : Int32))])) _
              refine XS.istore X183.here hx rfl (hb hby at_103) rfl (l' := #[.val (.int p0_), .val (.int p1_), .val (.int p2_), .val (.int p3_), .val (.int ((p0_ &&& (2147483647 : Int32)) % (9 : Int32))), .val (.ref b106), .val (.ref b114), .val (.ref b133), .val (.int (0 : Int32)), .val (.int (0 : Int32))]) rfl ?_
              show Steps p.tables e below (T183.setTop (mkF m 105 #[.val (.int p0_), .val (.int p1_), .val (.int p2_), .val (.int p3_), .val (.int ((p0_ &&& (2147483647 : Int32)) % (9 : Int32))), .val (.ref b106), .val (.ref b114), .val (.ref b133), .val (.int (0 : Int32)), .val (.int (0 : Int32))] [])) _
              refine XS.iload X183.here hx rfl (hb hby at_105) rfl ?_
              show Steps p.tables e below (T183.setTop (mkF m 107 #[.val (.int p0_), .val (.int p1_), .val (.int p2_), .val (.int p3_), .val (.int ((p0_ &&& (2147483647 : Int32)) % (9 : Int32))), .val (.ref b106), .val (.ref b114), .val (.ref b133), .val (.int (0 : Int32)), .val (.int (0 : Int32))] [(.int (0 : Int32))])) _
              refine XS.iload X183.here hx rfl (hb hby at_107) rfl ?_
              show Steps p.tables e below (T183.setTop (mkF m 109 #[.val (.int p0_), .val (.int p1_), .val (.int p2_), .val (.int p3_), .val (.int ((p0_ &&& (2147483647 : Int32)) % (9 : Int32))), .val (.ref b106), .val (.ref b114), .val (.ref b133), .val (.int (0 : Int32)), .val (.int (0 : Int32))] [(.int (0 : Int32)), (.int (0 : Int32))])) _
              refine XS.icmpNo X183.here hx rfl (hb hby at_109) rfl (teq (by decide : (0 : Int32) = (0 : Int32))).2 ?_
              show Steps p.tables e below (T183.setTop (mkF m 112 #[.val (.int p0_), .val (.int p1_), .val (.int p2_), .val (.int p3_), .val (.int ((p0_ &&& (2147483647 : Int32)) % (9 : Int32))), .val (.ref b106), .val (.ref b114), .val (.ref b133), .val (.int (0 : Int32)), .val (.int (0 : Int32))] [])) _
              refine XS.iconst X183.here hx rfl (hb hby at_112) ?_
              show Steps p.tables e below (T183.setTop (mkF m 113 #[.val (.int p0_), .val (.int p1_), .val (.int p2_), .val (.int p3_), .val (.int ((p0_ &&& (2147483647 : Int32)) % (9 : Int32))), .val (.ref b106), .val (.ref b114), .val (.ref b133), .val (.int (0 : Int32)), .val (.int (0 : Int32))] [(.int (1 : Int32))])) _
              refine XS.goto X183.here hx rfl (pc0 := 113) (pc' := 117) rfl (hb hby at_113) (by decide) (by decide) ?_
              exact kt
            obtain ⟨fs, hr, hrun, hended, hW, hsame⟩ := X183.leave (v := some (.int (1 : Int32))) (fun h => by rw [Bd.returns] at h; cases h)
            refine ⟨_, _, pre185 _ (retN X183 hx (t := .boolean) Bd.returns (by simp) (hb hby at_117) hr), hrun, hended, _, _, rfl, ?_, ⟨_, rfl⟩, hW, hsame.mono (by decide) (by decide)⟩
            show QLaw Z p0_ p1_ p2_ p3_ w_COMPACT_STRINGS w_LONG w_FLOAT w_DOUBLE w_REFERENCE w_INT h0 n0 _ T183.heap _
            rw [e183]
            exact ⟨rfl, N182⟩
          · obtain ⟨T187, X187, e187, st187⟩ := getS2 X181 hx hZ hown (host := "") (Or.inl (hw _ (List.mem_of_getElem? (i := 62) rfl))) Via.refl e181' (P3.ext f157.2) (g := (mkF m 84 #[.val (.int p0_), .val (.int p1_), .val (.int p2_), .val (.int p3_), .val (.int ((p0_ &&& (2147483647 : Int32)) % (9 : Int32))), .val (.ref b106), .val (.ref b114), .val (.ref b133), .val (.int (0 : Int32)), .unset] [(.ref w_FLOAT)])) rfl (hb hby at_84)
            have ne188 : w_FLOAT ≠ w_REFERENCE := Fld.ne P15 P13 (fun q => absurd (Value.int.inj q) (by decide))
            have pre189 : ∀ t, Steps p.tables e below (T187.setTop (mkF m 117 #[.val (.int p0_), .val (.int p1_), .val (.int p2_), .val (.int p3_), .val (.int ((p0_ &&& (2147483647 : Int32)) % (9 : Int32))), .val (.ref b106), .val (.ref b114), .val (.ref b133), .val (.int (0 : Int32)), .val (.int (0 : Int32))] [(.int (1 : Int32))])) t → Steps p.tables e below (s₁.setTop (entryFrame m #[(.int p0_), (.int p1_), (.int p2_), (.int p3_)] maxLocals)) t := by
              intro t kt
              refine pre177 t ?_
              show Steps p.tables e below (T149.setTop (mkF m 76 #[.val (.int p0_), .val (.int p1_), .val (.int p2_), .val (.int p3_), .val (.int ((p0_ &&& (2147483647 : Int32)) % (9 : Int32))), .val (.ref b106), .val (.ref b114), .val (.ref b133), .val (.int (0 : Int32)), .unset] [(.int (8 : Int32)), (.int ((p0_ &&& (2147483647 : Int32)) % (9 : Int32)))])) _
              refine XS.icmpNo X149.here hx rfl (hb hby at_76) rfl (flt hc178).2.2.1 ?_
              show Steps p.tables e below (T149.setTop (mkF m 79 #[.val (.int p0_), .val (.int p1_), .val (.int p2_), .val (.int p3_), .val (.int ((p0_ &&& (2147483647 : Int32)) % (9 : Int32))), .val (.ref b106), .val (.ref b114), .val (.ref b133), .val (.int (0 : Int32)), .unset] [])) _
              refine XS.aload X149.here hx rfl (hb hby at_79) rfl rfl ?_
              show Steps p.tables e below (T149.setTop (mkF m 81 #[.val (.int p0_), .val (.int p1_), .val (.int p2_), .val (.int p3_), .val (.int ((p0_ &&& (2147483647 : Int32)) % (9 : Int32))), .val (.ref b106), .val (.ref b114), .val (.ref b133), .val (.int (0 : Int32)), .unset] [(.ref b133)])) _
              refine st181.trans ?_
              show Steps p.tables e below (T181.setTop (mkF m 84 #[.val (.int p0_), .val (.int p1_), .val (.int p2_), .val (.int p3_), .val (.int ((p0_ &&& (2147483647 : Int32)) % (9 : Int32))), .val (.ref b106), .val (.ref b114), .val (.ref b133), .val (.int (0 : Int32)), .unset] [(.ref w_FLOAT)])) _
              refine st187 _ ?_
              show Steps p.tables e below (T187.setTop (mkF m 87 #[.val (.int p0_), .val (.int p1_), .val (.int p2_), .val (.int p3_), .val (.int ((p0_ &&& (2147483647 : Int32)) % (9 : Int32))), .val (.ref b106), .val (.ref b114), .val (.ref b133), .val (.int (0 : Int32)), .unset] [(.ref w_REFERENCE), (.ref w_FLOAT)])) _
              refine Jvm.RoadKit.acmp (g := (mkF m 87 #[.val (.int p0_), .val (.int p1_), .val (.int p2_), .val (.int p3_), .val (.int ((p0_ &&& (2147483647 : Int32)) % (9 : Int32))), .val (.ref b106), .val (.ref b114), .val (.ref b133), .val (.int (0 : Int32)), .unset] [(.ref w_REFERENCE), (.ref w_FLOAT)])) X187 hx rfl rfl rfl (pc0 := 87) (pc' := 102) (same := false) rfl (hb hby at_87) rfl (decide_eq_false fun q => ne188 (Value.ref.inj q)) (by decide) (by decide) ?_
              show Steps p.tables e below (T187.setTop (mkF m 102 #[.val (.int p0_), .val (.int p1_), .val (.int p2_), .val (.int p3_), .val (.int ((p0_ &&& (2147483647 : Int32)) % (9 : Int32))), .val (.ref b106), .val (.ref b114), .val (.ref b133), .val (.int (0 : Int32)), .unset] [])) _
              refine XS.iconst X187.here hx rfl (hb hby at_102) ?_
              show Steps p.tables e below (T187.setTop (mkF m 103 #[.val (.int p0_), .val (.int p1_), .val (.int p2_), .val (.int p3_), .val (.int ((p0_ &&& (2147483647 : Int32)) % (9 : Int32))), .val (.ref b106), .val (.ref b114), .val (.ref b133), .val (.int (0 : Int32)), .unset] [(.int (0 : Int32))])) _
              refine XS.istore X187.here hx rfl (hb hby at_103) rfl (l' := #[.val (.int p0_), .val (.int p1_), .val (.int p2_), .val (.int p3_), .val (.int ((p0_ &&& (2147483647 : Int32)) % (9 : Int32))), .val (.ref b106), .val (.ref b114), .val (.ref b133), .val (.int (0 : Int32)), .val (.int (0 : Int32))]) rfl ?_
              show Steps p.tables e below (T187.setTop (mkF m 105 #[.val (.int p0_), .val (.int p1_), .val (.int p2_), .val (.int p3_), .val (.int ((p0_ &&& (2147483647 : Int32)) % (9 : Int32))), .val (.ref b106), .val (.ref b114), .val (.ref b133), .val (.int (0 : Int32)), .val (.int (0 : Int32))] [])) _
              refine XS.iload X187.here hx rfl (hb hby at_105) rfl ?_
              show Steps p.tables e below (T187.setTop (mkF m 107 #[.val (.int p0_), .val (.int p1_), .val (.int p2_), .val (.int p3_), .val (.int ((p0_ &&& (2147483647 : Int32)) % (9 : Int32))), .val (.ref b106), .val (.ref b114), .val (.ref b133), .val (.int (0 : Int32)), .val (.int (0 : Int32))] [(.int (0 : Int32))])) _
              refine XS.iload X187.here hx rfl (hb hby at_107) rfl ?_
              show Steps p.tables e below (T187.setTop (mkF m 109 #[.val (.int p0_), .val (.int p1_), .val (.int p2_), .val (.int p3_), .val (.int ((p0_ &&& (2147483647 : Int32)) % (9 : Int32))), .val (.ref b106), .val (.ref b114), .val (.ref b133), .val (.int (0 : Int32)), .val (.int (0 : Int32))] [(.int (0 : Int32)), (.int (0 : Int32))])) _
              refine XS.icmpNo X187.here hx rfl (hb hby at_109) rfl (teq (by decide : (0 : Int32) = (0 : Int32))).2 ?_
              show Steps p.tables e below (T187.setTop (mkF m 112 #[.val (.int p0_), .val (.int p1_), .val (.int p2_), .val (.int p3_), .val (.int ((p0_ &&& (2147483647 : Int32)) % (9 : Int32))), .val (.ref b106), .val (.ref b114), .val (.ref b133), .val (.int (0 : Int32)), .val (.int (0 : Int32))] [])) _
              refine XS.iconst X187.here hx rfl (hb hby at_112) ?_
              show Steps p.tables e below (T187.setTop (mkF m 113 #[.val (.int p0_), .val (.int p1_), .val (.int p2_), .val (.int p3_), .val (.int ((p0_ &&& (2147483647 : Int32)) % (9 : Int32))), .val (.ref b106), .val (.ref b114), .val (.ref b133), .val (.int (0 : Int32)), .val (.int (0 : Int32))] [(.int (1 : Int32))])) _
              refine XS.goto X187.here hx rfl (pc0 := 113) (pc' := 117) rfl (hb hby at_113) (by decide) (by decide) ?_
              exact kt
            obtain ⟨fs, hr, hrun, hended, hW, hsame⟩ := X187.leave (v := some (.int (1 : Int32))) (fun h => by rw [Bd.returns] at h; cases h)
            refine ⟨_, _, pre189 _ (retN X187 hx (t := .boolean) Bd.returns (by simp) (hb hby at_117) hr), hrun, hended, _, _, rfl, ?_, ⟨_, rfl⟩, hW, hsame.mono (by decide) (by decide)⟩
            show QLaw Z p0_ p1_ p2_ p3_ w_COMPACT_STRINGS w_LONG w_FLOAT w_DOUBLE w_REFERENCE w_INT h0 n0 _ T187.heap _
            rw [e187]
            exact ⟨rfl, N182⟩
          · obtain ⟨T191, X191, e191, st191⟩ := getS2 X181 hx hZ hown (host := "") (Or.inl (hw _ (List.mem_of_getElem? (i := 62) rfl))) Via.refl e181' (P3.ext f157.2) (g := (mkF m 84 #[.val (.int p0_), .val (.int p1_), .val (.int p2_), .val (.int p3_), .val (.int ((p0_ &&& (2147483647 : Int32)) % (9 : Int32))), .val (.ref b106), .val (.ref b114), .val (.ref b133), .val (.int (0 : Int32)), .unset] [(.ref w_DOUBLE)])) rfl (hb hby at_84)
            have ne192 : w_DOUBLE ≠ w_REFERENCE := Fld.ne P14 P13 (fun q => absurd (Value.int.inj q) (by decide))
            have pre193 : ∀ t, Steps p.tables e below (T191.setTop (mkF m 117 #[.val (.int p0_), .val (.int p1_), .val (.int p2_), .val (.int p3_), .val (.int ((p0_ &&& (2147483647 : Int32)) % (9 : Int32))), .val (.ref b106), .val (.ref b114), .val (.ref b133), .val (.int (0 : Int32)), .val (.int (0 : Int32))] [(.int (1 : Int32))])) t → Steps p.tables e below (s₁.setTop (entryFrame m #[(.int p0_), (.int p1_), (.int p2_), (.int p3_)] maxLocals)) t := by
              intro t kt
              refine pre177 t ?_
              show Steps p.tables e below (T149.setTop (mkF m 76 #[.val (.int p0_), .val (.int p1_), .val (.int p2_), .val (.int p3_), .val (.int ((p0_ &&& (2147483647 : Int32)) % (9 : Int32))), .val (.ref b106), .val (.ref b114), .val (.ref b133), .val (.int (0 : Int32)), .unset] [(.int (8 : Int32)), (.int ((p0_ &&& (2147483647 : Int32)) % (9 : Int32)))])) _
              refine XS.icmpNo X149.here hx rfl (hb hby at_76) rfl (flt hc178).2.2.1 ?_
              show Steps p.tables e below (T149.setTop (mkF m 79 #[.val (.int p0_), .val (.int p1_), .val (.int p2_), .val (.int p3_), .val (.int ((p0_ &&& (2147483647 : Int32)) % (9 : Int32))), .val (.ref b106), .val (.ref b114), .val (.ref b133), .val (.int (0 : Int32)), .unset] [])) _
              refine XS.aload X149.here hx rfl (hb hby at_79) rfl rfl ?_
              show Steps p.tables e below (T149.setTop (mkF m 81 #[.val (.int p0_), .val (.int p1_), .val (.int p2_), .val (.int p3_), .val (.int ((p0_ &&& (2147483647 : Int32)) % (9 : Int32))), .val (.ref b106), .val (.ref b114), .val (.ref b133), .val (.int (0 : Int32)), .unset] [(.ref b133)])) _
              refine st181.trans ?_
              show Steps p.tables e below (T181.setTop (mkF m 84 #[.val (.int p0_), .val (.int p1_), .val (.int p2_), .val (.int p3_), .val (.int ((p0_ &&& (2147483647 : Int32)) % (9 : Int32))), .val (.ref b106), .val (.ref b114), .val (.ref b133), .val (.int (0 : Int32)), .unset] [(.ref w_DOUBLE)])) _
              refine st191 _ ?_
              show Steps p.tables e below (T191.setTop (mkF m 87 #[.val (.int p0_), .val (.int p1_), .val (.int p2_), .val (.int p3_), .val (.int ((p0_ &&& (2147483647 : Int32)) % (9 : Int32))), .val (.ref b106), .val (.ref b114), .val (.ref b133), .val (.int (0 : Int32)), .unset] [(.ref w_REFERENCE), (.ref w_DOUBLE)])) _
              refine Jvm.RoadKit.acmp (g := (mkF m 87 #[.val (.int p0_), .val (.int p1_), .val (.int p2_), .val (.int p3_), .val (.int ((p0_ &&& (2147483647 : Int32)) % (9 : Int32))), .val (.ref b106), .val (.ref b114), .val (.ref b133), .val (.int (0 : Int32)), .unset] [(.ref w_REFERENCE), (.ref w_DOUBLE)])) X191 hx rfl rfl rfl (pc0 := 87) (pc' := 102) (same := false) rfl (hb hby at_87) rfl (decide_eq_false fun q => ne192 (Value.ref.inj q)) (by decide) (by decide) ?_
              show Steps p.tables e below (T191.setTop (mkF m 102 #[.val (.int p0_), .val (.int p1_), .val (.int p2_), .val (.int p3_), .val (.int ((p0_ &&& (2147483647 : Int32)) % (9 : Int32))), .val (.ref b106), .val (.ref b114), .val (.ref b133), .val (.int (0 : Int32)), .unset] [])) _
              refine XS.iconst X191.here hx rfl (hb hby at_102) ?_
              show Steps p.tables e below (T191.setTop (mkF m 103 #[.val (.int p0_), .val (.int p1_), .val (.int p2_), .val (.int p3_), .val (.int ((p0_ &&& (2147483647 : Int32)) % (9 : Int32))), .val (.ref b106), .val (.ref b114), .val (.ref b133), .val (.int (0 : Int32)), .unset] [(.int (0 : Int32))])) _
              refine XS.istore X191.here hx rfl (hb hby at_103) rfl (l' := #[.val (.int p0_), .val (.int p1_), .val (.int p2_), .val (.int p3_), .val (.int ((p0_ &&& (2147483647 : Int32)) % (9 : Int32))), .val (.ref b106), .val (.ref b114), .val (.ref b133), .val (.int (0 : Int32)), .val (.int (0 : Int32))]) rfl ?_
              show Steps p.tables e below (T191.setTop (mkF m 105 #[.val (.int p0_), .val (.int p1_), .val (.int p2_), .val (.int p3_), .val (.int ((p0_ &&& (2147483647 : Int32)) % (9 : Int32))), .val (.ref b106), .val (.ref b114), .val (.ref b133), .val (.int (0 : Int32)), .val (.int (0 : Int32))] [])) _
              refine XS.iload X191.here hx rfl (hb hby at_105) rfl ?_
              show Steps p.tables e below (T191.setTop (mkF m 107 #[.val (.int p0_), .val (.int p1_), .val (.int p2_), .val (.int p3_), .val (.int ((p0_ &&& (2147483647 : Int32)) % (9 : Int32))), .val (.ref b106), .val (.ref b114), .val (.ref b133), .val (.int (0 : Int32)), .val (.int (0 : Int32))] [(.int (0 : Int32))])) _
              refine XS.iload X191.here hx rfl (hb hby at_107) rfl ?_
              show Steps p.tables e below (T191.setTop (mkF m 109 #[.val (.int p0_), .val (.int p1_), .val (.int p2_), .val (.int p3_), .val (.int ((p0_ &&& (2147483647 : Int32)) % (9 : Int32))), .val (.ref b106), .val (.ref b114), .val (.ref b133), .val (.int (0 : Int32)), .val (.int (0 : Int32))] [(.int (0 : Int32)), (.int (0 : Int32))])) _
              refine XS.icmpNo X191.here hx rfl (hb hby at_109) rfl (teq (by decide : (0 : Int32) = (0 : Int32))).2 ?_
              show Steps p.tables e below (T191.setTop (mkF m 112 #[.val (.int p0_), .val (.int p1_), .val (.int p2_), .val (.int p3_), .val (.int ((p0_ &&& (2147483647 : Int32)) % (9 : Int32))), .val (.ref b106), .val (.ref b114), .val (.ref b133), .val (.int (0 : Int32)), .val (.int (0 : Int32))] [])) _
              refine XS.iconst X191.here hx rfl (hb hby at_112) ?_
              show Steps p.tables e below (T191.setTop (mkF m 113 #[.val (.int p0_), .val (.int p1_), .val (.int p2_), .val (.int p3_), .val (.int ((p0_ &&& (2147483647 : Int32)) % (9 : Int32))), .val (.ref b106), .val (.ref b114), .val (.ref b133), .val (.int (0 : Int32)), .val (.int (0 : Int32))] [(.int (1 : Int32))])) _
              refine XS.goto X191.here hx rfl (pc0 := 113) (pc' := 117) rfl (hb hby at_113) (by decide) (by decide) ?_
              exact kt
            obtain ⟨fs, hr, hrun, hended, hW, hsame⟩ := X191.leave (v := some (.int (1 : Int32))) (fun h => by rw [Bd.returns] at h; cases h)
            refine ⟨_, _, pre193 _ (retN X191 hx (t := .boolean) Bd.returns (by simp) (hb hby at_117) hr), hrun, hended, _, _, rfl, ?_, ⟨_, rfl⟩, hW, hsame.mono (by decide) (by decide)⟩
            show QLaw Z p0_ p1_ p2_ p3_ w_COMPACT_STRINGS w_LONG w_FLOAT w_DOUBLE w_REFERENCE w_INT h0 n0 _ T191.heap _
            rw [e191]
            exact ⟨rfl, N182⟩
          · obtain ⟨T195, X195, e195, st195⟩ := getS2 X181 hx hZ hown (host := "") (Or.inl (hw _ (List.mem_of_getElem? (i := 62) rfl))) Via.refl e181' (P3.ext f157.2) (g := (mkF m 84 #[.val (.int p0_), .val (.int p1_), .val (.int p2_), .val (.int p3_), .val (.int ((p0_ &&& (2147483647 : Int32)) % (9 : Int32))), .val (.ref b106), .val (.ref b114), .val (.ref b133), .val (.int (0 : Int32)), .unset] [(.ref w_LONG)])) rfl (hb hby at_84)
            have ne196 : w_LONG ≠ w_REFERENCE := Fld.ne P16 P13 (fun q => absurd (Value.int.inj q) (by decide))
            have pre197 : ∀ t, Steps p.tables e below (T195.setTop (mkF m 117 #[.val (.int p0_), .val (.int p1_), .val (.int p2_), .val (.int p3_), .val (.int ((p0_ &&& (2147483647 : Int32)) % (9 : Int32))), .val (.ref b106), .val (.ref b114), .val (.ref b133), .val (.int (0 : Int32)), .val (.int (0 : Int32))] [(.int (1 : Int32))])) t → Steps p.tables e below (s₁.setTop (entryFrame m #[(.int p0_), (.int p1_), (.int p2_), (.int p3_)] maxLocals)) t := by
              intro t kt
              refine pre177 t ?_
              show Steps p.tables e below (T149.setTop (mkF m 76 #[.val (.int p0_), .val (.int p1_), .val (.int p2_), .val (.int p3_), .val (.int ((p0_ &&& (2147483647 : Int32)) % (9 : Int32))), .val (.ref b106), .val (.ref b114), .val (.ref b133), .val (.int (0 : Int32)), .unset] [(.int (8 : Int32)), (.int ((p0_ &&& (2147483647 : Int32)) % (9 : Int32)))])) _
              refine XS.icmpNo X149.here hx rfl (hb hby at_76) rfl (flt hc178).2.2.1 ?_
              show Steps p.tables e below (T149.setTop (mkF m 79 #[.val (.int p0_), .val (.int p1_), .val (.int p2_), .val (.int p3_), .val (.int ((p0_ &&& (2147483647 : Int32)) % (9 : Int32))), .val (.ref b106), .val (.ref b114), .val (.ref b133), .val (.int (0 : Int32)), .unset] [])) _
              refine XS.aload X149.here hx rfl (hb hby at_79) rfl rfl ?_
              show Steps p.tables e below (T149.setTop (mkF m 81 #[.val (.int p0_), .val (.int p1_), .val (.int p2_), .val (.int p3_), .val (.int ((p0_ &&& (2147483647 : Int32)) % (9 : Int32))), .val (.ref b106), .val (.ref b114), .val (.ref b133), .val (.int (0 : Int32)), .unset] [(.ref b133)])) _
              refine st181.trans ?_
              show Steps p.tables e below (T181.setTop (mkF m 84 #[.val (.int p0_), .val (.int p1_), .val (.int p2_), .val (.int p3_), .val (.int ((p0_ &&& (2147483647 : Int32)) % (9 : Int32))), .val (.ref b106), .val (.ref b114), .val (.ref b133), .val (.int (0 : Int32)), .unset] [(.ref w_LONG)])) _
              refine st195 _ ?_
              show Steps p.tables e below (T195.setTop (mkF m 87 #[.val (.int p0_), .val (.int p1_), .val (.int p2_), .val (.int p3_), .val (.int ((p0_ &&& (2147483647 : Int32)) % (9 : Int32))), .val (.ref b106), .val (.ref b114), .val (.ref b133), .val (.int (0 : Int32)), .unset] [(.ref w_REFERENCE), (.ref w_LONG)])) _
              refine Jvm.RoadKit.acmp (g := (mkF m 87 #[.val (.int p0_), .val (.int p1_), .val (.int p2_), .val (.int p3_), .val (.int ((p0_ &&& (2147483647 : Int32)) % (9 : Int32))), .val (.ref b106), .val (.ref b114), .val (.ref b133), .val (.int (0 : Int32)), .unset] [(.ref w_REFERENCE), (.ref w_LONG)])) X195 hx rfl rfl rfl (pc0 := 87) (pc' := 102) (same := false) rfl (hb hby at_87) rfl (decide_eq_false fun q => ne196 (Value.ref.inj q)) (by decide) (by decide) ?_
              show Steps p.tables e below (T195.setTop (mkF m 102 #[.val (.int p0_), .val (.int p1_), .val (.int p2_), .val (.int p3_), .val (.int ((p0_ &&& (2147483647 : Int32)) % (9 : Int32))), .val (.ref b106), .val (.ref b114), .val (.ref b133), .val (.int (0 : Int32)), .unset] [])) _
              refine XS.iconst X195.here hx rfl (hb hby at_102) ?_
              show Steps p.tables e below (T195.setTop (mkF m 103 #[.val (.int p0_), .val (.int p1_), .val (.int p2_), .val (.int p3_), .val (.int ((p0_ &&& (2147483647 : Int32)) % (9 : Int32))), .val (.ref b106), .val (.ref b114), .val (.ref b133), .val (.int (0 : Int32)), .unset] [(.int (0 : Int32))])) _
              refine XS.istore X195.here hx rfl (hb hby at_103) rfl (l' := #[.val (.int p0_), .val (.int p1_), .val (.int p2_), .val (.int p3_), .val (.int ((p0_ &&& (2147483647 : Int32)) % (9 : Int32))), .val (.ref b106), .val (.ref b114), .val (.ref b133), .val (.int (0 : Int32)), .val (.int (0 : Int32))]) rfl ?_
              show Steps p.tables e below (T195.setTop (mkF m 105 #[.val (.int p0_), .val (.int p1_), .val (.int p2_), .val (.int p3_), .val (.int ((p0_ &&& (2147483647 : Int32)) % (9 : Int32))), .val (.ref b106), .val (.ref b114), .val (.ref b133), .val (.int (0 : Int32)), .val (.int (0 : Int32))] [])) _
              refine XS.iload X195.here hx rfl (hb hby at_105) rfl ?_
              show Steps p.tables e below (T195.setTop (mkF m 107 #[.val (.int p0_), .val (.int p1_), .val (.int p2_), .val (.int p3_), .val (.int ((p0_ &&& (2147483647 : Int32)) % (9 : Int32))), .val (.ref b106), .val (.ref b114), .val (.ref b133), .val (.int (0 : Int32)), .val (.int (0 : Int32))] [(.int (0 : Int32))])) _
              refine XS.iload X195.here hx rfl (hb hby at_107) rfl ?_
              show Steps p.tables e below (T195.setTop (mkF m 109 #[.val (.int p0_), .val (.int p1_), .val (.int p2_), .val (.int p3_), .val (.int ((p0_ &&& (2147483647 : Int32)) % (9 : Int32))), .val (.ref b106), .val (.ref b114), .val (.ref b133), .val (.int (0 : Int32)), .val (.int (0 : Int32))] [(.int (0 : Int32)), (.int (0 : Int32))])) _
              refine XS.icmpNo X195.here hx rfl (hb hby at_109) rfl (teq (by decide : (0 : Int32) = (0 : Int32))).2 ?_
              show Steps p.tables e below (T195.setTop (mkF m 112 #[.val (.int p0_), .val (.int p1_), .val (.int p2_), .val (.int p3_), .val (.int ((p0_ &&& (2147483647 : Int32)) % (9 : Int32))), .val (.ref b106), .val (.ref b114), .val (.ref b133), .val (.int (0 : Int32)), .val (.int (0 : Int32))] [])) _
              refine XS.iconst X195.here hx rfl (hb hby at_112) ?_
              show Steps p.tables e below (T195.setTop (mkF m 113 #[.val (.int p0_), .val (.int p1_), .val (.int p2_), .val (.int p3_), .val (.int ((p0_ &&& (2147483647 : Int32)) % (9 : Int32))), .val (.ref b106), .val (.ref b114), .val (.ref b133), .val (.int (0 : Int32)), .val (.int (0 : Int32))] [(.int (1 : Int32))])) _
              refine XS.goto X195.here hx rfl (pc0 := 113) (pc' := 117) rfl (hb hby at_113) (by decide) (by decide) ?_
              exact kt
            obtain ⟨fs, hr, hrun, hended, hW, hsame⟩ := X195.leave (v := some (.int (1 : Int32))) (fun h => by rw [Bd.returns] at h; cases h)
            refine ⟨_, _, pre197 _ (retN X195 hx (t := .boolean) Bd.returns (by simp) (hb hby at_117) hr), hrun, hended, _, _, rfl, ?_, ⟨_, rfl⟩, hW, hsame.mono (by decide) (by decide)⟩
            show QLaw Z p0_ p1_ p2_ p3_ w_COMPACT_STRINGS w_LONG w_FLOAT w_DOUBLE w_REFERENCE w_INT h0 n0 _ T195.heap _
            rw [e195]
            exact ⟨rfl, N182⟩
          · obtain ⟨T199, X199, e199, st199⟩ := getS2 X181 hx hZ hown (host := "") (Or.inl (hw _ (List.mem_of_getElem? (i := 62) rfl))) Via.refl e181' (P3.ext f157.2) (g := (mkF m 84 #[.val (.int p0_), .val (.int p1_), .val (.int p2_), .val (.int p3_), .val (.int ((p0_ &&& (2147483647 : Int32)) % (9 : Int32))), .val (.ref b106), .val (.ref b114), .val (.ref b133), .val (.int (0 : Int32)), .unset] [(.ref w_REFERENCE)])) rfl (hb hby at_84)
            obtain ⟨cq200, kq200, q200a, q200b, q200c⟩ := isOf hZ e199 g141_0
            obtain ⟨_, _, ⟨T200, L200, k200, n200⟩, -, X200, ⟨Lc200, hQ200, l200, y200, z200⟩, st200⟩ := X199.virtualBack hx (y := (⟨"com/example/stackweave/stackweave/classfile/VerificationType", "isReference", "()Z"⟩ : MethodName)) (z := (⟨"com/example/stackweave/stackweave/classfile/VerificationType", "isReference", "()Z"⟩ : MethodName)) hown (mvT hZ (hw _ (List.mem_of_getElem? (i := 69) rfl))) (mvT hZ (hw _ (List.mem_of_getElem? (i := 70) rfl))) (notFace_of_selects (args := #[]) (mvT hZ (hw _ (List.mem_of_getElem? (i := 72) rfl)))) (mvT hZ (hw _ (List.mem_of_getElem? (i := 72) rfl))) (mvT hZ (hw _ (List.mem_of_getElem? (i := 71) rfl))) (by decide) (backOf (W := 0) (rmisReference15 l Z a0 hw [] b133 ((p0_ &&& (2147483647 : Int32)) % (9 : Int32)) b114 p1_ nnnb1_3_2_124 k1_3_2_124 ((p2_ &&& (255 : Int32)).toInt8.toInt32) h141 n0 f157 hq149_2_0 hq149_2_1 hc174 hc178 hq181_4_0 hq181_4_1 hq181_4_2 hq181_4_3 hq181_4_4 g141_0 g141_1 g141_2 g141_3 f150 f151 f153 f154 f156) hZ (hw _ (List.mem_of_getElem? (i := 73) rfl)) (hw _ (List.mem_of_getElem? (i := 33) rfl)) (by decide) (by decide)) q200a q200c (g := (mkF m 92 #[.val (.int p0_), .val (.int p1_), .val (.int p2_), .val (.int p3_), .val (.int ((p0_ &&& (2147483647 : Int32)) % (9 : Int32))), .val (.ref b106), .val (.ref b114), .val (.ref b133), .val (.int (0 : Int32)), .unset] [(.ref b133)])) rfl (by rw [hml]; rfl) (Steps.refl _) (argsL := []) (rest := []) (lenOf pd_7 rfl) rfl (by show 2 * 0 + _ ≤ _; exact Nat.le_of_eq rfl) (hb hby at_92) (fun _ _ => ⟨rfl, e199, (by decide : 4 + 0 ≤ _), (by decide : 9 + 0 ≤ _)⟩)
            dsimp only [Pt.U, Pt.locs, Pt.cells, Pt.slots] at X200 l200 y200 z200 st200 hQ200
            subst l200 y200 z200
            obtain ⟨h200, e200⟩ : ∃ z, T200.heap = z := ⟨_, rfl⟩
            rw [e200] at hQ200
            obtain ⟨rfl, N200q, hh200⟩ := hQ200
            have N201 := Fr.app N182 N200q
            have e200' : T200.heap = h141 := e200.trans hh200
            have pre202 : ∀ t, Steps p.tables e below (T200.setTop (mkF m 117 #[.val (.int p0_), .val (.int p1_), .val (.int p2_), .val (.int p3_), .val (.int ((p0_ &&& (2147483647 : Int32)) % (9 : Int32))), .val (.ref b106), .val (.ref b114), .val (.ref b133), .val (.int (0 : Int32)), .val (.int (0 : Int32))] [(.int (1 : Int32))])) t → Steps p.tables e below (s₁.setTop (entryFrame m #[(.int p0_), (.int p1_), (.int p2_), (.int p3_)] maxLocals)) t := by
              intro t kt
              refine pre177 t ?_
              show Steps p.tables e below (T149.setTop (mkF m 76 #[.val (.int p0_), .val (.int p1_), .val (.int p2_), .val (.int p3_), .val (.int ((p0_ &&& (2147483647 : Int32)) % (9 : Int32))), .val (.ref b106), .val (.ref b114), .val (.ref b133), .val (.int (0 : Int32)), .unset] [(.int (8 : Int32)), (.int ((p0_ &&& (2147483647 : Int32)) % (9 : Int32)))])) _
              refine XS.icmpNo X149.here hx rfl (hb hby at_76) rfl (flt hc178).2.2.1 ?_
              show Steps p.tables e below (T149.setTop (mkF m 79 #[.val (.int p0_), .val (.int p1_), .val (.int p2_), .val (.int p3_), .val (.int ((p0_ &&& (2147483647 : Int32)) % (9 : Int32))), .val (.ref b106), .val (.ref b114), .val (.ref b133), .val (.int (0 : Int32)), .unset] [])) _
              refine XS.aload X149.here hx rfl (hb hby at_79) rfl rfl ?_
              show Steps p.tables e below (T149.setTop (mkF m 81 #[.val (.int p0_), .val (.int p1_), .val (.int p2_), .val (.int p3_), .val (.int ((p0_ &&& (2147483647 : Int32)) % (9 : Int32))), .val (.ref b106), .val (.ref b114), .val (.ref b133), .val (.int (0 : Int32)), .unset] [(.ref b133)])) _
              refine st181.trans ?_
              show Steps p.tables e below (T181.setTop (mkF m 84 #[.val (.int p0_), .val (.int p1_), .val (.int p2_), .val (.int p3_), .val (.int ((p0_ &&& (2147483647 : Int32)) % (9 : Int32))), .val (.ref b106), .val (.ref b114), .val (.ref b133), .val (.int (0 : Int32)), .unset] [(.ref w_REFERENCE)])) _
              refine st199 _ ?_
              show Steps p.tables e below (T199.setTop (mkF m 87 #[.val (.int p0_), .val (.int p1_), .val (.int p2_), .val (.int p3_), .val (.int ((p0_ &&& (2147483647 : Int32)) % (9 : Int32))), .val (.ref b106), .val (.ref b114), .val (.ref b133), .val (.int (0 : Int32)), .unset] [(.ref w_REFERENCE), (.ref w_REFERENCE)])) _
              refine Jvm.RoadKit.acmp (g := (mkF m 87 #[.val (.int p0_), .val (.int p1_), .val (.int p2_), .val (.int p3_), .val (.int ((p0_ &&& (2147483647 : Int32)) % (9 : Int32))), .val (.ref b106), .val (.ref b114), .val (.ref b133), .val (.int (0 : Int32)), .unset] [(.ref w_REFERENCE), (.ref w_REFERENCE)])) X199 hx rfl rfl rfl (pc0 := 87) (pc' := 90) (same := true) rfl (hb hby at_87) rfl (decide_eq_true rfl) (by decide) (by decide) ?_
              show Steps p.tables e below (T199.setTop (mkF m 90 #[.val (.int p0_), .val (.int p1_), .val (.int p2_), .val (.int p3_), .val (.int ((p0_ &&& (2147483647 : Int32)) % (9 : Int32))), .val (.ref b106), .val (.ref b114), .val (.ref b133), .val (.int (0 : Int32)), .unset] [])) _
              refine XS.aload X199.here hx rfl (hb hby at_90) rfl rfl ?_
              show Steps p.tables e below (T199.setTop (mkF m 92 #[.val (.int p0_), .val (.int p1_), .val (.int p2_), .val (.int p3_), .val (.int ((p0_ &&& (2147483647 : Int32)) % (9 : Int32))), .val (.ref b106), .val (.ref b114), .val (.ref b133), .val (.int (0 : Int32)), .unset] [(.ref b133)])) _
              refine st200.trans ?_
              show Steps p.tables e below (T200.setTop (mkF m 95 #[.val (.int p0_), .val (.int p1_), .val (.int p2_), .val (.int p3_), .val (.int ((p0_ &&& (2147483647 : Int32)) % (9 : Int32))), .val (.ref b106), .val (.ref b114), .val (.ref b133), .val (.int (0 : Int32)), .unset] [(.int (1 : Int32))])) _
              refine XS.ifYes X200.here hx rfl (pc0 := 95) (pc' := 102) rfl (hb hby at_95) rfl ((if0 _ _).trans (feq (by decide : ¬ ((1 : Int32) = (0 : Int32)))).2) (by decide) (by decide) ?_
              show Steps p.tables e below (T200.setTop (mkF m 102 #[.val (.int p0_), .val (.int p1_), .val (.int p2_), .val (.int p3_), .val (.int ((p0_ &&& (2147483647 : Int32)) % (9 : Int32))), .val (.ref b106), .val (.ref b114), .val (.ref b133), .val (.int (0 : Int32)), .unset] [])) _
              refine XS.iconst X200.here hx rfl (hb hby at_102) ?_
              show Steps p.tables e below (T200.setTop (mkF m 103 #[.val (.int p0_), .val (.int p1_), .val (.int p2_), .val (.int p3_), .val (.int ((p0_ &&& (2147483647 : Int32)) % (9 : Int32))), .val (.ref b106), .val (.ref b114), .val (.ref b133), .val (.int (0 : Int32)), .unset] [(.int (0 : Int32))])) _
              refine XS.istore X200.here hx rfl (hb hby at_103) rfl (l' := #[.val (.int p0_), .val (.int p1_), .val (.int p2_), .val (.int p3_), .val (.int ((p0_ &&& (2147483647 : Int32)) % (9 : Int32))), .val (.ref b106), .val (.ref b114), .val (.ref b133), .val (.int (0 : Int32)), .val (.int (0 : Int32))]) rfl ?_
              show Steps p.tables e below (T200.setTop (mkF m 105 #[.val (.int p0_), .val (.int p1_), .val (.int p2_), .val (.int p3_), .val (.int ((p0_ &&& (2147483647 : Int32)) % (9 : Int32))), .val (.ref b106), .val (.ref b114), .val (.ref b133), .val (.int (0 : Int32)), .val (.int (0 : Int32))] [])) _
              refine XS.iload X200.here hx rfl (hb hby at_105) rfl ?_
              show Steps p.tables e below (T200.setTop (mkF m 107 #[.val (.int p0_), .val (.int p1_), .val (.int p2_), .val (.int p3_), .val (.int ((p0_ &&& (2147483647 : Int32)) % (9 : Int32))), .val (.ref b106), .val (.ref b114), .val (.ref b133), .val (.int (0 : Int32)), .val (.int (0 : Int32))] [(.int (0 : Int32))])) _
              refine XS.iload X200.here hx rfl (hb hby at_107) rfl ?_
              show Steps p.tables e below (T200.setTop (mkF m 109 #[.val (.int p0_), .val (.int p1_), .val (.int p2_), .val (.int p3_), .val (.int ((p0_ &&& (2147483647 : Int32)) % (9 : Int32))), .val (.ref b106), .val (.ref b114), .val (.ref b133), .val (.int (0 : Int32)), .val (.int (0 : Int32))] [(.int (0 : Int32)), (.int (0 : Int32))])) _
              refine XS.icmpNo X200.here hx rfl (hb hby at_109) rfl (teq (by decide : (0 : Int32) = (0 : Int32))).2 ?_
              show Steps p.tables e below (T200.setTop (mkF m 112 #[.val (.int p0_), .val (.int p1_), .val (.int p2_), .val (.int p3_), .val (.int ((p0_ &&& (2147483647 : Int32)) % (9 : Int32))), .val (.ref b106), .val (.ref b114), .val (.ref b133), .val (.int (0 : Int32)), .val (.int (0 : Int32))] [])) _
              refine XS.iconst X200.here hx rfl (hb hby at_112) ?_
              show Steps p.tables e below (T200.setTop (mkF m 113 #[.val (.int p0_), .val (.int p1_), .val (.int p2_), .val (.int p3_), .val (.int ((p0_ &&& (2147483647 : Int32)) % (9 : Int32))), .val (.ref b106), .val (.ref b114), .val (.ref b133), .val (.int (0 : Int32)), .val (.int (0 : Int32))] [(.int (1 : Int32))])) _
              refine XS.goto X200.here hx rfl (pc0 := 113) (pc' := 117) rfl (hb hby at_113) (by decide) (by decide) ?_
              exact kt
            obtain ⟨fs, hr, hrun, hended, hW, hsame⟩ := X200.leave (v := some (.int (1 : Int32))) (fun h => by rw [Bd.returns] at h; cases h)
            refine ⟨_, _, pre202 _ (retN X200 hx (t := .boolean) Bd.returns (by simp) (hb hby at_117) hr), hrun, hended, _, _, rfl, ?_, ⟨_, rfl⟩, hW, hsame.mono (by decide) (by decide)⟩
            show QLaw Z p0_ p1_ p2_ p3_ w_COMPACT_STRINGS w_LONG w_FLOAT w_DOUBLE w_REFERENCE w_INT h0 n0 _ T200.heap _
            rw [e200']
            exact ⟨rfl, N201⟩
          · obtain ⟨T204, X204, e204, st204⟩ := getS2 X181 hx hZ hown (host := "") (Or.inl (hw _ (List.mem_of_getElem? (i := 62) rfl))) Via.refl e181' (P3.ext f157.2) (g := (mkF m 84 #[.val (.int p0_), .val (.int p1_), .val (.int p2_), .val (.int p3_), .val (.int ((p0_ &&& (2147483647 : Int32)) % (9 : Int32))), .val (.ref b106), .val (.ref b114), .val (.ref b133), .val (.int (0 : Int32)), .unset] [(.ref w_REFERENCE)])) rfl (hb hby at_84)
            obtain ⟨cq205, kq205, q205a, q205b, q205c⟩ := isOf hZ e204 g141_0
            obtain ⟨_, _, ⟨T205, L205, k205, n205⟩, -, X205, ⟨Lc205, hQ205, l205, y205, z205⟩, st205⟩ := X204.virtualBack hx (y := (⟨"com/example/stackweave/stackweave/classfile/VerificationType", "isReference", "()Z"⟩ : MethodName)) (z := (⟨"com/example/stackweave/stackweave/classfile/VerificationType", "isReference", "()Z"⟩ : MethodName)) hown (mvT hZ (hw _ (List.mem_of_getElem? (i := 69) rfl))) (mvT hZ (hw _ (List.mem_of_getElem? (i := 70) rfl))) (notFace_of_selects (args := #[]) (mvT hZ (hw _ (List.mem_of_getElem? (i := 72) rfl)))) (mvT hZ (hw _ (List.mem_of_getElem? (i := 72) rfl))) (mvT hZ (hw _ (List.mem_of_getElem? (i := 71) rfl))) (by decide) (backOf (W := 0) (rmisReference16 l Z a0 hw [] b133 ((p0_ &&& (2147483647 : Int32)) % (9 : Int32)) b114 p1_ nnnb1_3_2_124 k1_3_2_124 ((p2_ &&& (255 : Int32)).toInt8.toInt32) h141 n0 f157 hq149_2_0 hq149_2_1 hc174 hc178 hq181_5_0 hq181_5_1 hq181_5_2 hq181_5_3 hq181_5_4 hq181_5_5 g141_0 g141_1 g141_2 g141_3 f150 f151 f153 f154 f156) hZ (hw _ (List.mem_of_getElem? (i := 73) rfl)) (hw _ (List.mem_of_getElem? (i := 33) rfl)) (by decide) (by decide)) q205a q205c (g := (mkF m 92 #[.val (.int p0_), .val (.int p1_), .val (.int p2_), .val (.int p3_), .val (.int ((p0_ &&& (2147483647 : Int32)) % (9 : Int32))), .val (.ref b106), .val (.ref b114), .val (.ref b133), .val (.int (0 : Int32)), .unset] [(.ref b133)])) rfl (by rw [hml]; rfl) (Steps.refl _) (argsL := []) (rest := []) (lenOf pd_7 rfl) rfl (by show 2 * 0 + _ ≤ _; exact Nat.le_of_eq rfl) (hb hby at_92) (fun _ _ => ⟨rfl, e204, (by decide : 4 + 0 ≤ _), (by decide : 9 + 0 ≤ _)⟩)
            dsimp only [Pt.U, Pt.locs, Pt.cells, Pt.slots] at X205 l205 y205 z205 st205 hQ205
            subst l205 y205 z205
            obtain ⟨h205, e205⟩ : ∃ z, T205.heap = z := ⟨_, rfl⟩
            rw [e205] at hQ205
            obtain ⟨rfl, N205q, hh205⟩ := hQ205
            have N206 := Fr.app N182 N205q
            have e205' : T205.heap = h141 := e205.trans hh205
            have pre207 : ∀ t, Steps p.tables e below (T205.setTop (mkF m 117 #[.val (.int p0_), .val (.int p1_), .val (.int p2_), .val (.int p3_), .val (.int ((p0_ &&& (2147483647 : Int32)) % (9 : Int32))), .val (.ref b106), .val (.ref b114), .val (.ref b133), .val (.int (0 : Int32)), .val (.int (0 : Int32))] [(.int (1 : Int32))])) t → Steps p.tables e below (s₁.setTop (entryFrame m #[(.int p0_), (.int p1_), (.int p2_), (.int p3_)] maxLocals)) t := by
              intro t kt
              refine pre177 t ?_
              show Steps p.tables e below (T149.setTop (mkF m 76 #[.val (.int p0_), .val (.int p1_), .val (.int p2_), .val (.int p3_), .val (.int ((p0_ &&& (2147483647 : Int32)) % (9 : Int32))), .val (.ref b106), .val (.ref b114), .val (.ref b133), .val (.int (0 : Int32)), .unset] [(.int (8 : Int32)), (.int ((p0_ &&& (2147483647 : Int32)) % (9 : Int32)))])) _
              refine XS.icmpNo X149.here hx rfl (hb hby at_76) rfl (flt hc178).2.2.1 ?_
              show Steps p.tables e below (T149.setTop (mkF m 79 #[.val (.int p0_), .val (.int p1_), .val (.int p2_), .val (.int p3_), .val (.int ((p0_ &&& (2147483647 : Int32)) % (9 : Int32))), .val (.ref b106), .val (.ref b114), .val (.ref b133), .val (.int (0 : Int32)), .unset] [])) _
              refine XS.aload X149.here hx rfl (hb hby at_79) rfl rfl ?_
              show Steps p.tables e below (T149.setTop (mkF m 81 #[.val (.int p0_), .val (.int p1_), .val (.int p2_), .val (.int p3_), .val (.int ((p0_ &&& (2147483647 : Int32)) % (9 : Int32))), .val (.ref b106), .val (.ref b114), .val (.ref b133), .val (.int (0 : Int32)), .unset] [(.ref b133)])) _
              refine st181.trans ?_
              show Steps p.tables e below (T181.setTop (mkF m 84 #[.val (.int p0_), .val (.int p1_), .val (.int p2_), .val (.int p3_), .val (.int ((p0_ &&& (2147483647 : Int32)) % (9 : Int32))), .val (.ref b106), .val (.ref b114), .val (.ref b133), .val (.int (0 : Int32)), .unset] [(.ref w_REFERENCE)])) _
              refine st204 _ ?_
              show Steps p.tables e below (T204.setTop (mkF m 87 #[.val (.int p0_), .val (.int p1_), .val (.int p2_), .val (.int p3_), .val (.int ((p0_ &&& (2147483647 : Int32)) % (9 : Int32))), .val (.ref b106), .val (.ref b114), .val (.ref b133), .val (.int (0 : Int32)), .unset] [(.ref w_REFERENCE), (.ref w_REFERENCE)])) _
              refine Jvm.RoadKit.acmp (g := (mkF m 87 #[.val (.int p0_), .val (.int p1_), .val (.int p2_), .val (.int p3_), .val (.int ((p0_ &&& (2147483647 : Int32)) % (9 : Int32))), .val (.ref b106), .val (.ref b114), .val (.ref b133), .val (.int (0 : Int32)), .unset] [(.ref w_REFERENCE), (.ref w_REFERENCE)])) X204 hx rfl rfl rfl (pc0 := 87) (pc' := 90) (same := true) rfl (hb hby at_87) rfl (decide_eq_true rfl) (by decide) (by decide) ?_
              show Steps p.tables e below (T204.setTop (mkF m 90 #[.val (.int p0_), .val (.int p1_), .val (.int p2_), .val (.int p3_), .val (.int ((p0_ &&& (2147483647 : Int32)) % (9 : Int32))), .val (.ref b106), .val (.ref b114), .val (.ref b133), .val (.int (0 : Int32)), .unset] [])) _
              refine XS.aload X204.here hx rfl (hb hby at_90) rfl rfl ?_
              show Steps p.tables e below (T204.setTop (mkF m 92 #[.val (.int p0_), .val (.int p1_), .val (.int p2_), .val (.int p3_), .val (.int ((p0_ &&& (2147483647 : Int32)) % (9 : Int32))), .val (.ref b106), .val (.ref b114), .val (.ref b133), .val (.int (0 : Int32)), .unset] [(.ref b133)])) _
              refine st205.trans ?_
              show Steps p.tables e below (T205.setTop (mkF m 95 #[.val (.int p0_), .val (.int p1_), .val (.int p2_), .val (.int p3_), .val (.int ((p0_ &&& (2147483647 : Int32)) % (9 : Int32))), .val (.ref b106), .val (.ref b114), .val (.ref b133), .val (.int (0 : Int32)), .unset] [(.int (1 : Int32))])) _
              refine XS.ifYes X205.here hx rfl (pc0 := 95) (pc' := 102) rfl (hb hby at_95) rfl ((if0 _ _).trans (feq (by decide : ¬ ((1 : Int32) = (0 : Int32)))).2) (by decide) (by decide) ?_
              show Steps p.tables e below (T205.setTop (mkF m 102 #[.val (.int p0_), .val (.int p1_), .val (.int p2_), .val (.int p3_), .val (.int ((p0_ &&& (2147483647 : Int32)) % (9 : Int32))), .val (.ref b106), .val (.ref b114), .val (.ref b133), .val (.int (0 : Int32)), .unset] [])) _
              refine XS.iconst X205.here hx rfl (hb hby at_102) ?_
              show Steps p.tables e below (T205.setTop (mkF m 103 #[.val (.int p0_), .val (.int p1_), .val (.int p2_), .val (.int p3_), .val (.int ((p0_ &&& (2147483647 : Int32)) % (9 : Int32))), .val (.ref b106), .val (.ref b114), .val (.ref b133), .val (.int (0 : Int32)), .unset] [(.int (0 : Int32))])) _
              refine XS.istore X205.here hx rfl (hb hby at_103) rfl (l' := #[.val (.int p0_), .val (.int p1_), .val (.int p2_), .val (.int p3_), .val (.int ((p0_ &&& (2147483647 : Int32)) % (9 : Int32))), .val (.ref b106), .val (.ref b114), .val (.ref b133), .val (.int (0 : Int32)), .val (.int (0 : Int32))]) rfl ?_
              show Steps p.tables e below (T205.setTop (mkF m 105 #[.val (.int p0_), .val (.int p1_), .val (.int p2_), .val (.int p3_), .val (.int ((p0_ &&& (2147483647 : Int32)) % (9 : Int32))), .val (.ref b106), .val (.ref b114), .val (.ref b133), .val (.int (0 : Int32)), .val (.int (0 : Int32))] [])) _
              refine XS.iload X205.here hx rfl (hb hby at_105) rfl ?_
              show Steps p.tables e below (T205.setTop (mkF m 107 #[.val (.int p0_), .val (.int p1_), .val (.int p2_), .val (.int p3_), .val (.int ((p0_ &&& (2147483647 : Int32)) % (9 : Int32))), .val (.ref b106), .val (.ref b114), .val (.ref b133), .val (.int (0 : Int32)), .val (.int (0 : Int32))] [(.int (0 : Int32))])) _
              refine XS.iload X205.here hx rfl (hb hby at_107) rfl ?_
              show Steps p.tables e below (T205.setTop (mkF m 109 #[.val (.int p0_), .val (.int p1_), .val (.int p2_), .val (.int p3_), .val (.int ((p0_ &&& (2147483647 : Int32)) % (9 : Int32))), .val (.ref b106), .val (.ref b114), .val (.ref b133), .val (.int (0 : Int32)), .val (.int (0 : Int32))] [(.int (0 : Int32)), (.int (0 : Int32))])) _
              refine XS.icmpNo X205.here hx rfl (hb hby at_109) rfl (teq (by decide : (0 : Int32) = (0 : Int32))).2 ?_
              show Steps p.tables e below (T205.setTop (mkF m 112 #[.val (.int p0_), .val (.int p1_), .val (.int p2_), .val (.int p3_), .val (.int ((p0_ &&& (2147483647 : Int32)) % (9 : Int32))), .val (.ref b106), .val (.ref b114), .val (.ref b133), .val (.int (0 : Int32)), .val (.int (0 : Int32))] [])) _
              refine XS.iconst X205.here hx rfl (hb hby at_112) ?_
              show Steps p.tables e below (T205.setTop (mkF m 113 #[.val (.int p0_), .val (.int p1_), .val (.int p2_), .val (.int p3_), .val (.int ((p0_ &&& (2147483647 : Int32)) % (9 : Int32))), .val (.ref b106), .val (.ref b114), .val (.ref b133), .val (.int (0 : Int32)), .val (.int (0 : Int32))] [(.int (1 : Int32))])) _
              refine XS.goto X205.here hx rfl (pc0 := 113) (pc' := 117) rfl (hb hby at_113) (by decide) (by decide) ?_
              exact kt
            obtain ⟨fs, hr, hrun, hended, hW, hsame⟩ := X205.leave (v := some (.int (1 : Int32))) (fun h => by rw [Bd.returns] at h; cases h)
            refine ⟨_, _, pre207 _ (retN X205 hx (t := .boolean) Bd.returns (by simp) (hb hby at_117) hr), hrun, hended, _, _, rfl, ?_, ⟨_, rfl⟩, hW, hsame.mono (by decide) (by decide)⟩
            show QLaw Z p0_ p1_ p2_ p3_ w_COMPACT_STRINGS w_LONG w_FLOAT w_DOUBLE w_REFERENCE w_INT h0 n0 _ T205.heap _
            rw [e205']
            exact ⟨rfl, N206⟩
set_option maxRecDepth 65536 in
set_option maxHeartbeats 40000000 in
theorem comes_1 {Post : Tables → Env → Array Value → State → Outcome → State → Prop} (hpost : ∀ tb e args s v u, (limb_1_1.after args s (.returned v) u = true ∧ limb_1_2.after args s (.returned v) u = true ∧ True) → FrameEnd s (.returned v) u (Jvm.fieldLocs frame_1_writes args s ++ Jvm.arrayLocs frame_1_arrays args s ++ Jvm.staticLocs frame_1_statics s) 16 128 → Post tb e args s (.returned v) u) :
    ArmFor flags0 classFile x code maxLocals ret World_1 tables_1 room_1 Calls_1 rest_1 Pre_1 Post := by
  intro l hfl _ _ p e ha hc hk s m args below hf hA hF happ hP
  obtain ⟨hcalls, hrest, hpre⟩ := hP
  obtain ⟨-, -, -, hnamed, -, -, -, hat⟩ := (Spec.applies_iff hf).mp happ
  obtain ⟨hg, hn⟩ := and_e (Cond.before_iff.mp (show (Jvm.Cond.and given_1 narrow_1).before args s = true from hpre))
  obtain ⟨g1, g2⟩ := and_e hg
  obtain ⟨g3, g4⟩ := and_e g2
  obtain ⟨g5, g6⟩ := and_e g4
  obtain ⟨g7, g8⟩ := and_e g6
  obtain ⟨w0, w1, w2, w3, rfl⟩ : ∃ w0 w1 w2 w3 : Value, args = #[w0, w1, w2, w3] := by
    have hs : args.size = 4 := by simpa [Cond.value, given_1] using g1
    obtain ⟨L⟩ := args
    match L, hs with
    | [w0, w1, w2, w3], _ => exact ⟨w0, w1, w2, w3, rfl⟩
  have hw := fun d (hd : d ∈ tables_1) => atoms_spec (ws := Jvm.Cond.code x code maxLocals ret :: tables_1) hat d (List.mem_cons_of_mem _ hd)
  have hfit : Fit s := fun {y c} hc i hi => by
    obtain ⟨ha, rfl⟩ := Array.getElem?_eq_some_iff.mp hc
    have q := List.all_eq_true.mp ((Array.all_eq_true_iff_forall_mem.mp hF) _ (Array.getElem_mem ha)) i (List.mem_range.mpr hi)
    simpa [Array.getElem?_eq_getElem hi] using q
  obtain ⟨i0, ei0⟩ := is_v g3
  obtain rfl : w0 = (.int i0) := Option.some.inj ei0
  obtain ⟨i1, ei1⟩ := is_v g5
  obtain rfl : w1 = (.int i1) := Option.some.inj ei1
  obtain ⟨i2, ei2⟩ := is_v g7
  obtain rfl : w2 = (.int i2) := Option.some.inj ei2
  obtain ⟨i3, ei3⟩ := is_v g8
  obtain rfl : w3 = (.int i3) := Option.some.inj ei3
  obtain ⟨g9, g10⟩ := and_e hn
  obtain ⟨g11, g12⟩ := and_e g10
  obtain ⟨g13, g14⟩ := and_e g12
  obtain ⟨g15, g16⟩ := and_e g14
  obtain ⟨g17, g18⟩ := and_e g16
  obtain ⟨g19, g20⟩ := and_e g18
  obtain ⟨g21, g22⟩ := and_e g20
  obtain ⟨g23, g24⟩ := and_e g22
  obtain ⟨g25, g26⟩ := and_e g24
  have hr0 := Cond.before_iff.mp (show rest_1_c.before _ s = true from hrest)
  obtain ⟨g27, g28⟩ := and_e hr0
  obtain ⟨g29, g30⟩ := and_e g28
  obtain ⟨g31, g32⟩ := and_e g30
  obtain ⟨g33, g34⟩ := and_e g32
  obtain ⟨g35, g36⟩ := and_e g34
  obtain ⟨g37, g38⟩ := and_e g36
  obtain ⟨g39, g40⟩ := and_e g38
  obtain ⟨g41, g42⟩ := and_e g40
  obtain ⟨g43, g44⟩ := and_e g42
  obtain ⟨w_INT, ev_w_INT⟩ := exa_v g9
  have S_w_INT := Sta.start ev_w_INT (Or.inr ⟨(hw _ (List.mem_of_getElem? (i := 60) rfl)), (hw _ (List.mem_of_getElem? (i := 61) rfl))⟩)
  have E_w_INT := Exa.start ev_w_INT g9
  obtain ⟨w_REFERENCE, ev_w_REFERENCE⟩ := exa_v g11
  have S_w_REFERENCE := Sta.start ev_w_REFERENCE (Or.inr ⟨(hw _ (List.mem_of_getElem? (i := 60) rfl)), (hw _ (List.mem_of_getElem? (i := 63) rfl))⟩)
  have E_w_REFERENCE := Exa.start ev_w_REFERENCE g11
  obtain ⟨w_DOUBLE, ev_w_DOUBLE⟩ := exa_v g17
  have S_w_DOUBLE := Sta.start ev_w_DOUBLE (Or.inr ⟨(hw _ (List.mem_of_getElem? (i := 60) rfl)), (hw _ (List.mem_of_getElem? (i := 65) rfl))⟩)
  have E_w_DOUBLE := Exa.start ev_w_DOUBLE g17
  obtain ⟨w_FLOAT, ev_w_FLOAT⟩ := exa_v g21
  have S_w_FLOAT := Sta.start ev_w_FLOAT (Or.inr ⟨(hw _ (List.mem_of_getElem? (i := 60) rfl)), (hw _ (List.mem_of_getElem? (i := 67) rfl))⟩)
  have E_w_FLOAT := Exa.start ev_w_FLOAT g21
  obtain ⟨w_LONG, ev_w_LONG⟩ := exa_v g25
  have S_w_LONG := Sta.start ev_w_LONG (Or.inr ⟨(hw _ (List.mem_of_getElem? (i := 60) rfl)), (hw _ (List.mem_of_getElem? (i := 75) rfl))⟩)
  have E_w_LONG := Exa.start ev_w_LONG g25
  obtain ⟨w_COMPACT_STRINGS, ev_w_COMPACT_STRINGS⟩ := is_v g29
  have S_w_COMPACT_STRINGS := Sta.start ev_w_COMPACT_STRINGS (Or.inl (Cond.before_iff.mpr g27))
  have F_ordinal_w_INT := Fld.start ((fld_at ev_w_INT).symm.trans (own_eqi g13))
  have F_ordinal_w_REFERENCE := Fld.start ((fld_at ev_w_REFERENCE).symm.trans (own_eqi g15))
  have F_ordinal_w_DOUBLE := Fld.start ((fld_at ev_w_DOUBLE).symm.trans (own_eqi g19))
  have F_ordinal_w_FLOAT := Fld.start ((fld_at ev_w_FLOAT).symm.trans (own_eqi g23))
  have F_ordinal_w_LONG := Fld.start ((fld_at ev_w_LONG).symm.trans (own_eqi g26))
  obtain ⟨n, o, h1, h2, h3, _, L, rfl, ⟨rfl, N⟩, hq⟩ := rmLaw l s _ hw tables_1 i0 i1 i2 i3 w_COMPACT_STRINGS w_LONG w_FLOAT w_DOUBLE w_REFERENCE w_INT s.heap s.heap.size (Old.start s) (own_nei g31 ev_w_COMPACT_STRINGS) S_w_INT E_w_INT S_w_REFERENCE E_w_REFERENCE S_w_DOUBLE E_w_DOUBLE S_w_FLOAT E_w_FLOAT S_w_LONG E_w_LONG S_w_COMPACT_STRINGS F_ordinal_w_INT F_ordinal_w_REFERENCE F_ordinal_w_DOUBLE F_ordinal_w_FLOAT F_ordinal_w_LONG p e ha hc hk s m _ below hf ((Spec.applies_iff_loose hf).mp happ).1 ⟨rfl, State.Warmed39.refl s, rfl⟩ trivial
  refine ⟨n, _, h1, h2, h3, hpost _ _ _ _ _ _ ⟨Cond.after_iff.mpr rfl, Cond.after_iff.mpr (eq_i res_at (Term.int_eval (1)) rfl), trivial⟩ ⟨hq.1, hq.2.1, (hq.2.2.sift fun y hy => Or.inr (N y hy)).mono (by decide) (by decide)⟩⟩
theorem main_1_1 : Claimed_1_1 := comes_1 fun _ _ _ _ _ _ h hF => ⟨h.1, hF⟩
theorem main_1_2 : Claimed_1_2 := comes_1 fun _ _ _ _ _ _ h hF => ⟨h.2.1, hF⟩
end Jvm.Pilot.@@N@@
namespace Jvm.Pilot.@@N@@
open Jvm Jvm.ClassFile Sem Op Lib Jvm.Free Jvm.Stand Jvm.Pilot.@@N@@.Jvm.D
/-! MADE BY PROGRAM (witnessworld.py) out of the Statement's table words and the real class files: 23 classes; the members and pool entries that the words name. The judged class is class 1, her method 1. -/
namespace start1
open Jvm.ClassFile
def u (s : String) : CpInfo := .utf8 (stringToUtf16 s)
/-- a pool by its gaps: so many unusable entries, then the entry; so many at the end -/
def gap : Nat → List CpInfo → List CpInfo
  | 0, r => r
  | n + 1, r => .unusable :: gap n r
def poolList (es : List (Nat × CpInfo)) (last : Nat) : List CpInfo := es.foldr (fun e r => gap e.1 (e.2 :: r)) (gap last [])
def pool (es : List (Nat × CpInfo)) (last : Nat) : Array CpInfo := ⟨poolList es last⟩
def fileOf (pool : Array CpInfo) (this : Nat) (attrs : Array Attribute := #[]) (ms : Array MethodInfo := #[]) (fl : Nat := 33) (sup : Nat := 0) (ifs : Array Nat := #[]) (fds : Array FieldInfo := #[]) : ClassFile where
  minorVersion := 0
  majorVersion := 65
  constantPool := pool
  accessFlags := fl
  thisClass := this
  superClass := sup
  interfaces := ifs
  fields := fds
  methods := ms
  attributes := attrs
def plain (name : String) (sup : Option ClassId) : Class where
  name := name
  kind := .ordinary
  loader := none
  accessFlags := 33
  super := sup
  interfaces := #[]
  cf := none
  fields := #[]
  methods := #[]
  instanceTypes := #[]
  staticTypes := #[]
  resolved := #[]
  callSites := []
  init := .initialized
  statics := none
  mirror := none

def pool0 : Array CpInfo := pool [(5, u "<init>"), (0, u "()V"), (1, .class_ 10), (1, u "java/lang/Object")] 113

def k0c0 : Code := { maxStack := 0, maxLocals := 1, code := object_method_1_code, exceptionTable := #[], attributes := #[] }
def k0m0 : Method := { name := "<init>", desc := "()V", sig := { parameters := [], returnType := none }, accessFlags := 1, code := some k0c0 }
/-- java/lang/Object -/
def k0 : Class := { plain "java/lang/Object" none with
  accessFlags := 33
  interfaces := #[]
  cf := some (fileOf pool0 8 #[] #[{ accessFlags := 1, nameIndex := 5, descriptorIndex := 6, attributes := #[] }] 33 0 #[] #[])
  fields := #[]
  methods := #[k0m0]
  instanceTypes := #[]
  staticTypes := #[]
  resolved := Array.replicate 124 none
  statics := none }

def pool1 : Array CpInfo := pool [(2, .class_ 4), (1, u "java/lang/Object"), (0, u "<init>"), (0, u "()V"), (0, .integer 2147483647), (0, .class_ 9), (0, u "java/lang/String"), (0, .methodref 8 11), (0, .nameAndType 5 12), (0, u "([C)V"), (0, .class_ 14), (0, u "com/example/stackweave/stackweave/classfile/VerificationType"), (0, .methodref 13 16), (0, .nameAndType 5 17), (0, u "(ILjava/lang/String;I)V"), (0, .methodref 13 19), (0, .nameAndType 20 21), (0, u "isUninitialized"), (0, u "()Z"), (0, .methodref 13 23), (0, .nameAndType 24 25), (0, u "kind"), (0, u "()Lcom/example/stackweave/stackweave/classfile/ValueKind;"), (0, .fieldref 27 28), (0, .class_ 29), (0, .nameAndType 30 31), (0, u "com/example/stackweave/stackweave/classfile/ValueKind"), (0, u "REFERENCE"), (0, u "Lcom/example/stackweave/stackweave/classfile/ValueKind;"), (0, .methodref 13 33), (0, .nameAndType 34 21), (0, u "isReference"), (0, .class_ 36), (0, u "com/example/stackweave/stackweave/classfile/VerificationTypeIsUninitializedPinLaw"), (2, u "law"), (0, u "(IIII)Z")] 5

def k1m0 : Method := { name := "<init>", desc := "()V", sig := { parameters := [], returnType := none }, accessFlags := 1, code := none }
def k1c1 : Code := { maxStack := 5, maxLocals := 10, code := code, exceptionTable := #[], attributes := #[] }
def k1m1 : Method := { name := "law", desc := "(IIII)Z", sig := { parameters := [.int, .int, .int, .int], returnType := some .boolean }, accessFlags := 9, code := some k1c1 }
/-- com/example/stackweave/stackweave/classfile/VerificationTypeIsUninitializedPinLaw -/
def k1 : Class := { plain "com/example/stackweave/stackweave/classfile/VerificationTypeIsUninitializedPinLaw" (some 0) with
  accessFlags := 49
  interfaces := #[]
  cf := some (fileOf pool1 35 #[] #[{ accessFlags := 1, nameIndex := 5, descriptorIndex := 6, attributes := #[] }, { accessFlags := 9, nameIndex := 39, descriptorIndex := 40, attributes := #[] }] 49 2 #[] #[])
  fields := #[]
  methods := #[k1m0, k1m1]
  instanceTypes := #[]
  staticTypes := #[]
  resolved := Array.replicate 46 none
  statics := none }

def pool2 : Array CpInfo := pool [(1, .class_ 2), (0, u "java/io/Serializable"), (0, .class_ 4), (0, u "java/lang/Object")] 2

/-- java/io/Serializable -/
def k2 : Class := { plain "java/io/Serializable" (some 0) with
  accessFlags := 1537
  interfaces := #[]
  cf := some (fileOf pool2 1 #[] #[] 1537 3 #[] #[])
  fields := #[]
  methods := #[]
  instanceTypes := #[]
  staticTypes := #[]
  resolved := Array.replicate 7 none
  statics := none }

def pool3 : Array CpInfo := pool [(1, .class_ 2), (0, u "java/lang/Comparable"), (0, .class_ 4), (0, u "java/lang/Object")] 7

/-- java/lang/Comparable -/
def k3 : Class := { plain "java/lang/Comparable" (some 0) with
  accessFlags := 1537
  interfaces := #[]
  cf := some (fileOf pool3 1 #[] #[] 1537 3 #[] #[])
  fields := #[]
  methods := #[]
  instanceTypes := #[]
  staticTypes := #[]
  resolved := Array.replicate 12 none
  statics := none }

def pool4 : Array CpInfo := pool [(2, .class_ 4), (1, u "java/lang/CharSequence"), (42, .class_ 48), (0, u "java/lang/CharSequence$1CodePointIterator"), (10, .class_ 60), (0, u "java/lang/CharSequence$1CharIterator"), (5, .class_ 67), (0, u "java/lang/Object")] 63

/-- java/lang/CharSequence -/
def k4 : Class := { plain "java/lang/CharSequence" (some 0) with
  accessFlags := 1537
  interfaces := #[]
  cf := some (fileOf pool4 2 #[.nestMembers #[47, 59]] #[] 1537 66 #[] #[])
  fields := #[]
  methods := #[]
  instanceTypes := #[]
  staticTypes := #[]
  resolved := Array.replicate 131 none
  statics := none }

def pool5 : Array CpInfo := pool [(1, .class_ 2), (0, u "java/lang/constant/Constable"), (0, .class_ 4), (0, u "java/lang/Object")] 6

/-- java/lang/constant/Constable -/
def k5 : Class := { plain "java/lang/constant/Constable" (some 0) with
  accessFlags := 1537
  interfaces := #[]
  cf := some (fileOf pool5 1 #[] #[] 1537 3 #[] #[])
  fields := #[]
  methods := #[]
  instanceTypes := #[]
  staticTypes := #[]
  resolved := Array.replicate 11 none
  statics := none }

def pool6 : Array CpInfo := pool [(1, .class_ 2), (0, u "java/lang/constant/ConstantDesc"), (0, .class_ 4), (0, u "java/lang/Object")] 32

/-- java/lang/constant/ConstantDesc -/
def k6 : Class := { plain "java/lang/constant/ConstantDesc" (some 0) with
  accessFlags := 1537
  interfaces := #[]
  cf := some (fileOf pool6 1 #[] #[] 1537 3 #[] #[])
  fields := #[]
  methods := #[]
  instanceTypes := #[]
  staticTypes := #[]
  resolved := Array.replicate 37 none
  statics := none }

def pool7 : Array CpInfo := pool [(1, .methodref 2 3), (0, .class_ 4), (0, .nameAndType 5 6), (0, u "java/lang/Object"), (0, u "<init>"), (0, u "()V"), (2, .fieldref 10 11), (0, .class_ 12), (0, .nameAndType 13 14), (0, u "java/lang/String"), (0, u "value"), (0, u "[B"), (0, .fieldref 10 16), (0, .nameAndType 17 18), (0, u "coder"), (0, u "B"), (2, u "hash"), (0, u "I"), (2, u "hashIsZero"), (0, u "Z"), (0, .methodref 10 28), (0, .nameAndType 5 29), (0, u "([CIILjava/lang/Void;)V"), (8, .fieldref 10 39), (0, .nameAndType 40 26), (0, u "COMPACT_STRINGS"), (1, .class_ 44), (1, u "java/lang/StringUTF16"), (0, u "compress"), (1, .methodref 42 48), (0, .nameAndType 49 50), (0, u "coderFromArrayLen"), (0, u "([BI)B"), (126, .methodref 42 178), (0, .nameAndType 45 179), (0, u "([CII)[B"), (395, .class_ 576), (0, u "java/lang/CharSequence"), (22, u "CASE_INSENSITIVE_ORDER"), (0, u "Ljava/util/Comparator;"), (409, u "([C)V"), (90, u "serialPersistentFields"), (0, u "[Ljava/io/ObjectStreamField;"), (0, .class_ 1104), (0, u "java/lang/String$CaseInsensitiveComparator"), (1, .class_ 1107), (0, u "java/io/Serializable"), (0, .class_ 1109), (0, u "java/lang/Comparable"), (0, .class_ 1111), (0, u "java/lang/constant/Constable"), (0, .class_ 1113), (0, u "java/lang/constant/ConstantDesc"), (2, u "serialVersionUID"), (0, u "J"), (3, u "REPL"), (0, u "C"), (2, u "LATIN1"), (1, u "UTF16")] 323

def k7m0 : Method := { name := "<init>", desc := "()V", sig := { parameters := [], returnType := none }, accessFlags := 1, code := none }
def k7c1 : Code := { maxStack := 5, maxLocals := 2, code := jdk_42_method_3_code, exceptionTable := #[], attributes := #[] }
def k7m1 : Method := { name := "<init>", desc := "([C)V", sig := { parameters := [(.array .char)], returnType := none }, accessFlags := 1, code := some k7c1 }
def k7c2 : Code := { maxStack := 4, maxLocals := 6, code := jdk_42_method_149_code, exceptionTable := #[], attributes := #[] }
def k7m2 : Method := { name := "<init>", desc := "([CIILjava/lang/Void;)V", sig := { parameters := [(.array .char), .int, .int, (.object "java/lang/Void")], returnType := none }, accessFlags := 2, code := some k7c2 }
/-- java/lang/String -/
def k7 : Class := { plain "java/lang/String" (some 0) with
  accessFlags := 49
  interfaces := #[2, 3, 4, 5, 6]
  cf := some (fileOf pool7 10 #[.nestMembers #[1103]] #[{ accessFlags := 1, nameIndex := 5, descriptorIndex := 6, attributes := #[] }, { accessFlags := 1, nameIndex := 5, descriptorIndex := 1010, attributes := #[] }, { accessFlags := 2, nameIndex := 5, descriptorIndex := 29, attributes := #[] }] 49 2 #[1106, 1108, 575, 1110, 1112] #[{ accessFlags := 18, nameIndex := 13, descriptorIndex := 14, attributes := #[] }, { accessFlags := 18, nameIndex := 17, descriptorIndex := 18, attributes := #[] }, { accessFlags := 2, nameIndex := 21, descriptorIndex := 22, attributes := #[] }, { accessFlags := 2, nameIndex := 25, descriptorIndex := 26, attributes := #[] }, { accessFlags := 26, nameIndex := 1116, descriptorIndex := 1117, attributes := #[] }, { accessFlags := 24, nameIndex := 40, descriptorIndex := 26, attributes := #[] }, { accessFlags := 26, nameIndex := 1101, descriptorIndex := 1102, attributes := #[] }, { accessFlags := 26, nameIndex := 1121, descriptorIndex := 1122, attributes := #[] }, { accessFlags := 25, nameIndex := 599, descriptorIndex := 600, attributes := #[] }, { accessFlags := 24, nameIndex := 1125, descriptorIndex := 18, attributes := #[] }, { accessFlags := 24, nameIndex := 1127, descriptorIndex := 18, attributes := #[] }])
  fields := #[{ name := "value", type := (.array .byte), accessFlags := 18, slot := 0, constantValue := 0 }, { name := "coder", type := .byte, accessFlags := 18, slot := 1, constantValue := 0 }, { name := "hash", type := .int, accessFlags := 2, slot := 2, constantValue := 0 }, { name := "hashIsZero", type := .boolean, accessFlags := 2, slot := 3, constantValue := 0 }, { name := "serialVersionUID", type := .long, accessFlags := 26, slot := 0, constantValue := 0 }, { name := "COMPACT_STRINGS", type := .boolean, accessFlags := 24, slot := 1, constantValue := 0 }, { name := "serialPersistentFields", type := (.array (.object "java/io/ObjectStreamField")), accessFlags := 26, slot := 2, constantValue := 0 }, { name := "REPL", type := .char, accessFlags := 26, slot := 3, constantValue := 0 }, { name := "CASE_INSENSITIVE_ORDER", type := (.object "java/util/Comparator"), accessFlags := 25, slot := 4, constantValue := 0 }, { name := "LATIN1", type := .byte, accessFlags := 24, slot := 5, constantValue := 0 }, { name := "UTF16", type := .byte, accessFlags := 24, slot := 6, constantValue := 0 }]
  methods := #[k7m0, k7m1, k7m2]
  instanceTypes := #[(.array .byte), .byte, .int, .boolean]
  staticTypes := #[.long, .boolean, (.array (.object "java/io/ObjectStreamField")), .char, (.object "java/util/Comparator"), .byte, .byte]
  resolved := Array.replicate 1451 none
  statics := some 0 }

def pool8 : Array CpInfo := pool [(6, .class_ 8), (1, u "java/lang/Object"), (0, u "<init>"), (0, u "()V"), (1, .class_ 14), (1, u "java/lang/StringUTF16"), (31, u "$assertionsDisabled"), (0, u "Z"), (13, u "HI_BYTE_SHIFT"), (0, u "I"), (2, u "LO_BYTE_SHIFT"), (49, .methodref 12 116), (0, .nameAndType 117 118), (0, u "compress"), (0, u "([CI[BII)I"), (3, u "([CII)[B"), (138, u "coderFromArrayLen"), (0, u "([BI)B"), (106, .class_ 371), (1, u "java/lang/StringUTF16$LinesSpliterator"), (58, u "MAX_LENGTH"), (196, .class_ 628), (0, u "java/lang/StringUTF16$CodePointsSpliterator"), (0, .class_ 630), (0, u "java/lang/StringUTF16$CharsSpliterator")] 4

def k8m0 : Method := { name := "<init>", desc := "()V", sig := { parameters := [], returnType := none }, accessFlags := 0, code := none }
def k8c1 : Code := { maxStack := 2, maxLocals := 2, code := jdk_52_method_15_code, exceptionTable := #[], attributes := #[] }
def k8m1 : Method := { name := "coderFromArrayLen", desc := "([BI)B", sig := { parameters := [(.array .byte), .int], returnType := some .byte }, accessFlags := 8, code := some k8c1 }
def k8c2 : Code := { maxStack := 5, maxLocals := 6, code := jdk_52_method_16_code, exceptionTable := #[], attributes := #[] }
def k8m2 : Method := { name := "compress", desc := "([CII)[B", sig := { parameters := [(.array .char), .int, .int], returnType := some (.array .byte) }, accessFlags := 9, code := some k8c2 }
def k8c3 : Code := { maxStack := 3, maxLocals := 7, code := jdk_52_method_21_code, exceptionTable := #[], attributes := #[] }
def k8m3 : Method := { name := "compress", desc := "([CI[BII)I", sig := { parameters := [(.array .char), .int, (.array .byte), .int, .int], returnType := some .int }, accessFlags := 9, code := some k8c3 }
/-- java/lang/StringUTF16 -/
def k8 : Class := { plain "java/lang/StringUTF16" (some 0) with
  accessFlags := 48
  interfaces := #[]
  cf := some (fileOf pool8 12 #[.nestMembers #[627, 629, 369]] #[{ accessFlags := 0, nameIndex := 9, descriptorIndex := 10, attributes := #[] }, { accessFlags := 8, nameIndex := 261, descriptorIndex := 262, attributes := #[] }, { accessFlags := 9, nameIndex := 117, descriptorIndex := 122, attributes := #[] }, { accessFlags := 9, nameIndex := 117, descriptorIndex := 118, attributes := #[] }] 48 6 #[] #[{ accessFlags := 26, nameIndex := 61, descriptorIndex := 62, attributes := #[] }, { accessFlags := 26, nameIndex := 65, descriptorIndex := 62, attributes := #[] }, { accessFlags := 24, nameIndex := 430, descriptorIndex := 62, attributes := #[] }, { accessFlags := 4120, nameIndex := 46, descriptorIndex := 47, attributes := #[] }])
  fields := #[{ name := "HI_BYTE_SHIFT", type := .int, accessFlags := 26, slot := 0, constantValue := 0 }, { name := "LO_BYTE_SHIFT", type := .int, accessFlags := 26, slot := 1, constantValue := 0 }, { name := "MAX_LENGTH", type := .int, accessFlags := 24, slot := 2, constantValue := 0 }, { name := "$assertionsDisabled", type := .boolean, accessFlags := 4120, slot := 3, constantValue := 0 }]
  methods := #[k8m0, k8m1, k8m2, k8m3]
  instanceTypes := #[]
  staticTypes := #[.int, .int, .int, .boolean]
  resolved := Array.replicate 635 none
  statics := none }

def pool9 : Array CpInfo := pool [(1, .methodref 2 3), (0, .class_ 4), (0, .nameAndType 5 6), (0, u "java/lang/Object"), (0, u "<init>"), (0, u "()V"), (0, .class_ 8), (0, u "java/lang/Record")] 13

def k9c0 : Code := { maxStack := 1, maxLocals := 1, code := jdk_30_method_1_code, exceptionTable := #[], attributes := #[] }
def k9m0 : Method := { name := "<init>", desc := "()V", sig := { parameters := [], returnType := none }, accessFlags := 4, code := some k9c0 }
/-- java/lang/Record -/
def k9 : Class := { plain "java/lang/Record" (some 0) with
  accessFlags := 1057
  interfaces := #[]
  cf := some (fileOf pool9 7 #[] #[{ accessFlags := 4, nameIndex := 5, descriptorIndex := 6, attributes := #[] }] 1057 2 #[] #[])
  fields := #[]
  methods := #[k9m0]
  instanceTypes := #[]
  staticTypes := #[]
  resolved := Array.replicate 22 none
  statics := none }

def pool10 : Array CpInfo := pool [(1, .methodref 2 3), (0, .class_ 4), (0, .nameAndType 5 6), (0, u "java/lang/Record"), (0, u "<init>"), (0, u "()V"), (0, .fieldref 8 9), (0, .class_ 10), (0, .nameAndType 11 12), (0, u "com/example/stackweave/stackweave/classfile/VerificationType"), (0, u "tag"), (0, u "I"), (0, .fieldref 8 14), (0, .nameAndType 15 16), (0, u "className"), (0, u "Ljava/lang/String;"), (0, .fieldref 8 18), (0, .nameAndType 19 12), (0, u "newOffset"), (2, u "(ILjava/lang/String;I)V"), (5, u "()Z"), (1, .class_ 32), (1, u "com/example/stackweave/stackweave/classfile/ValueKind"), (7, u "REFERENCES"), (0, u "Lcom/example/stackweave/stackweave/classfile/IdentityCache;"), (26, u "isReference"), (2, u "NULL"), (0, u "Lcom/example/stackweave/stackweave/classfile/VerificationType;"), (2, u "OBJECT"), (15, .fieldref 30 92), (0, .nameAndType 93 94), (0, u "INT"), (0, u "Lcom/example/stackweave/stackweave/classfile/ValueKind;"), (2, u "INTEGER"), (0, .fieldref 30 99), (0, .nameAndType 100 94), (0, u "LONG"), (2, .fieldref 30 104), (0, .nameAndType 105 94), (0, u "FLOAT"), (2, .fieldref 30 109), (0, .nameAndType 110 94), (0, u "DOUBLE"), (8, .fieldref 30 120), (0, .nameAndType 121 94), (0, u "REFERENCE"), (15, u "TOP"), (20, u "OBJECT_ARRAY"), (0, u "ITEM_TOP"), (2, u "ITEM_INTEGER"), (1, u "ITEM_FLOAT"), (1, u "ITEM_DOUBLE"), (1, u "ITEM_LONG"), (1, u "ITEM_NULL"), (1, u "ITEM_UNINITIALIZED_THIS"), (1, u "ITEM_OBJECT"), (1, u "ITEM_UNINITIALIZED"), (15, u "isUninitialized"), (2, u "kind"), (0, u "()Lcom/example/stackweave/stackweave/classfile/ValueKind;")] 47

def k10c0 : Code := { maxStack := 2, maxLocals := 4, code := prog_38_method_1_code, exceptionTable := #[], attributes := #[] }
def k10m0 : Method := { name := "<init>", desc := "(ILjava/lang/String;I)V", sig := { parameters := [.int, (.object "java/lang/String"), .int], returnType := none }, accessFlags := 0, code := some k10c0 }
def k10c1 : Code := { maxStack := 2, maxLocals := 1, code := prog_38_method_10_code, exceptionTable := #[], attributes := #[] }
def k10m1 : Method := { name := "isReference", desc := "()Z", sig := { parameters := [], returnType := some .boolean }, accessFlags := 0, code := some k10c1 }
def k10c2 : Code := { maxStack := 2, maxLocals := 1, code := prog_38_method_11_code, exceptionTable := #[], attributes := #[] }
def k10m2 : Method := { name := "isUninitialized", desc := "()Z", sig := { parameters := [], returnType := some .boolean }, accessFlags := 0, code := some k10c2 }
def k10c3 : Code := { maxStack := 3, maxLocals := 2, code := prog_38_method_13_code, exceptionTable := #[], attributes := #[] }
def k10m3 : Method := { name := "kind", desc := "()Lcom/example/stackweave/stackweave/classfile/ValueKind;", sig := { parameters := [], returnType := some (.object "com/example/stackweave/stackweave/classfile/ValueKind") }, accessFlags := 0, code := some k10c3 }
/-- com/example/stackweave/stackweave/classfile/VerificationType -/
def k10 : Class := { plain "com/example/stackweave/stackweave/classfile/VerificationType" (some 9) with
  accessFlags := 48
  interfaces := #[]
  cf := some (fileOf pool10 8 #[] #[{ accessFlags := 0, nameIndex := 5, descriptorIndex := 22, attributes := #[] }, { accessFlags := 0, nameIndex := 68, descriptorIndex := 28, attributes := #[] }, { accessFlags := 0, nameIndex := 192, descriptorIndex := 28, attributes := #[] }, { accessFlags := 0, nameIndex := 195, descriptorIndex := 196, attributes := #[] }] 48 2 #[] #[{ accessFlags := 18, nameIndex := 11, descriptorIndex := 12, attributes := #[] }, { accessFlags := 18, nameIndex := 15, descriptorIndex := 16, attributes := #[] }, { accessFlags := 18, nameIndex := 19, descriptorIndex := 12, attributes := #[] }, { accessFlags := 24, nameIndex := 159, descriptorIndex := 12, attributes := #[] }, { accessFlags := 24, nameIndex := 162, descriptorIndex := 12, attributes := #[] }, { accessFlags := 24, nameIndex := 164, descriptorIndex := 12, attributes := #[] }, { accessFlags := 24, nameIndex := 166, descriptorIndex := 12, attributes := #[] }, { accessFlags := 24, nameIndex := 168, descriptorIndex := 12, attributes := #[] }, { accessFlags := 24, nameIndex := 170, descriptorIndex := 12, attributes := #[] }, { accessFlags := 24, nameIndex := 172, descriptorIndex := 12, attributes := #[] }, { accessFlags := 24, nameIndex := 174, descriptorIndex := 12, attributes := #[] }, { accessFlags := 24, nameIndex := 176, descriptorIndex := 12, attributes := #[] }, { accessFlags := 24, nameIndex := 137, descriptorIndex := 72, attributes := #[] }, { accessFlags := 24, nameIndex := 97, descriptorIndex := 72, attributes := #[] }, { accessFlags := 24, nameIndex := 105, descriptorIndex := 72, attributes := #[] }, { accessFlags := 24, nameIndex := 110, descriptorIndex := 72, attributes := #[] }, { accessFlags := 24, nameIndex := 100, descriptorIndex := 72, attributes := #[] }, { accessFlags := 24, nameIndex := 71, descriptorIndex := 72, attributes := #[] }, { accessFlags := 24, nameIndex := 75, descriptorIndex := 72, attributes := #[] }, { accessFlags := 26, nameIndex := 40, descriptorIndex := 41, attributes := #[] }, { accessFlags := 24, nameIndex := 158, descriptorIndex := 72, attributes := #[] }])
  fields := #[{ name := "tag", type := .int, accessFlags := 18, slot := 0, constantValue := 0 }, { name := "className", type := (.object "java/lang/String"), accessFlags := 18, slot := 1, constantValue := 0 }, { name := "newOffset", type := .int, accessFlags := 18, slot := 2, constantValue := 0 }, { name := "ITEM_TOP", type := .int, accessFlags := 24, slot := 0, constantValue := 0 }, { name := "ITEM_INTEGER", type := .int, accessFlags := 24, slot := 1, constantValue := 0 }, { name := "ITEM_FLOAT", type := .int, accessFlags := 24, slot := 2, constantValue := 0 }, { name := "ITEM_DOUBLE", type := .int, accessFlags := 24, slot := 3, constantValue := 0 }, { name := "ITEM_LONG", type := .int, accessFlags := 24, slot := 4, constantValue := 0 }, { name := "ITEM_NULL", type := .int, accessFlags := 24, slot := 5, constantValue := 0 }, { name := "ITEM_UNINITIALIZED_THIS", type := .int, accessFlags := 24, slot := 6, constantValue := 0 }, { name := "ITEM_OBJECT", type := .int, accessFlags := 24, slot := 7, constantValue := 0 }, { name := "ITEM_UNINITIALIZED", type := .int, accessFlags := 24, slot := 8, constantValue := 0 }, { name := "TOP", type := (.object "com/example/stackweave/stackweave/classfile/VerificationType"), accessFlags := 24, slot := 9, constantValue := 0 }, { name := "INTEGER", type := (.object "com/example/stackweave/stackweave/classfile/VerificationType"), accessFlags := 24, slot := 10, constantValue := 0 }, { name := "FLOAT", type := (.object "com/example/stackweave/stackweave/classfile/VerificationType"), accessFlags := 24, slot := 11, constantValue := 0 }, { name := "DOUBLE", type := (.object "com/example/stackweave/stackweave/classfile/VerificationType"), accessFlags := 24, slot := 12, constantValue := 0 }, { name := "LONG", type := (.object "com/example/stackweave/stackweave/classfile/VerificationType"), accessFlags := 24, slot := 13, constantValue := 0 }, { name := "NULL", type := (.object "com/example/stackweave/stackweave/classfile/VerificationType"), accessFlags := 24, slot := 14, constantValue := 0 }, { name := "OBJECT", type := (.object "com/example/stackweave/stackweave/classfile/VerificationType"), accessFlags := 24, slot := 15, constantValue := 0 }, { name := "REFERENCES", type := (.object "com/example/stackweave/stackweave/classfile/IdentityCache"), accessFlags := 26, slot := 16, constantValue := 0 }, { name := "OBJECT_ARRAY", type := (.object "com/example/stackweave/stackweave/classfile/VerificationType"), accessFlags := 24, slot := 17, constantValue := 0 }]
  methods := #[k10m0, k10m1, k10m2, k10m3]
  instanceTypes := #[.int, (.object "java/lang/String"), .int]
  staticTypes := #[.int, .int, .int, .int, .int, .int, .int, .int, .int, (.object "com/example/stackweave/stackweave/classfile/VerificationType"), (.object "com/example/stackweave/stackweave/classfile/VerificationType"), (.object "com/example/stackweave/stackweave/classfile/VerificationType"), (.object "com/example/stackweave/stackweave/classfile/VerificationType"), (.object "com/example/stackweave/stackweave/classfile/VerificationType"), (.object "com/example/stackweave/stackweave/classfile/VerificationType"), (.object "com/example/stackweave/stackweave/classfile/VerificationType"), (.object "com/example/stackweave/stackweave/classfile/IdentityCache"), (.object "com/example/stackweave/stackweave/classfile/VerificationType")]
  resolved := Array.replicate 244 none
  statics := none }

def pool11 : Array CpInfo := pool [(2, .class_ 4), (1, u "java/lang/Enum"), (0, u "name"), (0, u "Ljava/lang/String;"), (2, u "ordinal"), (0, u "I"), (1, .class_ 14), (1, u "java/lang/Object"), (4, u "hash"), (86, .class_ 108), (1, u "java/lang/Enum$EnumDesc"), (2, .class_ 112), (0, u "java/lang/constant/Constable"), (0, .class_ 114), (0, u "java/lang/Comparable"), (0, .class_ 116), (0, u "java/io/Serializable")] 87

/-- java/lang/Enum -/
def k11 : Class := { plain "java/lang/Enum" (some 0) with
  accessFlags := 1057
  interfaces := #[5, 3, 2]
  cf := some (fileOf pool11 2 #[.nestMembers #[106]] #[] 1057 12 #[111, 113, 115] #[{ accessFlags := 18, nameIndex := 5, descriptorIndex := 6, attributes := #[] }, { accessFlags := 18, nameIndex := 9, descriptorIndex := 10, attributes := #[] }, { accessFlags := 2, nameIndex := 19, descriptorIndex := 10, attributes := #[] }])
  fields := #[{ name := "name", type := (.object "java/lang/String"), accessFlags := 18, slot := 0, constantValue := 0 }, { name := "ordinal", type := .int, accessFlags := 18, slot := 1, constantValue := 0 }, { name := "hash", type := .int, accessFlags := 2, slot := 2, constantValue := 0 }]
  methods := #[]
  instanceTypes := #[(.object "java/lang/String"), .int, .int]
  staticTypes := #[]
  resolved := Array.replicate 204 none
  statics := none }

def pool12 : Array CpInfo := pool [(1, .class_ 2), (0, u "com/example/stackweave/stackweave/classfile/ValueKind"), (2, u "INT"), (0, u "Lcom/example/stackweave/stackweave/classfile/ValueKind;"), (2, u "LONG"), (2, u "FLOAT"), (2, u "DOUBLE"), (2, u "REFERENCE"), (2, u "VOID"), (2, u "$VALUES"), (0, u "[Lcom/example/stackweave/stackweave/classfile/ValueKind;"), (6, .class_ 34), (1, u "java/lang/Enum"), (8, u "slots"), (0, u "I"), (2, u "load"), (2, u "loadFromSlot0"), (2, u "store"), (2, u "storeToSlot0"), (2, u "returnValue"), (2, u "loadDefault"), (2, u "numericOffset")] 68

/-- com/example/stackweave/stackweave/classfile/ValueKind -/
def k12 : Class := { plain "com/example/stackweave/stackweave/classfile/ValueKind" (some 11) with
  accessFlags := 16433
  interfaces := #[]
  cf := some (fileOf pool12 1 #[] #[] 16433 32 #[] #[{ accessFlags := 16409, nameIndex := 5, descriptorIndex := 6, attributes := #[] }, { accessFlags := 16409, nameIndex := 9, descriptorIndex := 6, attributes := #[] }, { accessFlags := 16409, nameIndex := 12, descriptorIndex := 6, attributes := #[] }, { accessFlags := 16409, nameIndex := 15, descriptorIndex := 6, attributes := #[] }, { accessFlags := 16409, nameIndex := 18, descriptorIndex := 6, attributes := #[] }, { accessFlags := 16409, nameIndex := 21, descriptorIndex := 6, attributes := #[] }, { accessFlags := 18, nameIndex := 43, descriptorIndex := 44, attributes := #[] }, { accessFlags := 18, nameIndex := 47, descriptorIndex := 44, attributes := #[] }, { accessFlags := 18, nameIndex := 50, descriptorIndex := 44, attributes := #[] }, { accessFlags := 18, nameIndex := 53, descriptorIndex := 44, attributes := #[] }, { accessFlags := 18, nameIndex := 56, descriptorIndex := 44, attributes := #[] }, { accessFlags := 18, nameIndex := 59, descriptorIndex := 44, attributes := #[] }, { accessFlags := 18, nameIndex := 62, descriptorIndex := 44, attributes := #[] }, { accessFlags := 18, nameIndex := 65, descriptorIndex := 44, attributes := #[] }, { accessFlags := 4122, nameIndex := 24, descriptorIndex := 25, attributes := #[] }])
  fields := #[{ name := "INT", type := (.object "com/example/stackweave/stackweave/classfile/ValueKind"), accessFlags := 16409, slot := 0, constantValue := 0 }, { name := "LONG", type := (.object "com/example/stackweave/stackweave/classfile/ValueKind"), accessFlags := 16409, slot := 1, constantValue := 0 }, { name := "FLOAT", type := (.object "com/example/stackweave/stackweave/classfile/ValueKind"), accessFlags := 16409, slot := 2, constantValue := 0 }, { name := "DOUBLE", type := (.object "com/example/stackweave/stackweave/classfile/ValueKind"), accessFlags := 16409, slot := 3, constantValue := 0 }, { name := "REFERENCE", type := (.object "com/example/stackweave/stackweave/classfile/ValueKind"), accessFlags := 16409, slot := 4, constantValue := 0 }, { name := "VOID", type := (.object "com/example/stackweave/stackweave/classfile/ValueKind"), accessFlags := 16409, slot := 5, constantValue := 0 }, { name := "slots", type := .int, accessFlags := 18, slot := 3, constantValue := 0 }, { name := "load", type := .int, accessFlags := 18, slot := 4, constantValue := 0 }, { name := "loadFromSlot0", type := .int, accessFlags := 18, slot := 5, constantValue := 0 }, { name := "store", type := .int, accessFlags := 18, slot := 6, constantValue := 0 }, { name := "storeToSlot0", type := .int, accessFlags := 18, slot := 7, constantValue := 0 }, { name := "returnValue", type := .int, accessFlags := 18, slot := 8, constantValue := 0 }, { name := "loadDefault", type := .int, accessFlags := 18, slot := 9, constantValue := 0 }, { name := "numericOffset", type := .int, accessFlags := 18, slot := 10, constantValue := 0 }, { name := "$VALUES", type := (.array (.object "com/example/stackweave/stackweave/classfile/ValueKind")), accessFlags := 4122, slot := 6, constantValue := 0 }]
  methods := #[]
  instanceTypes := #[(.object "java/lang/String"), .int, .int, .int, .int, .int, .int, .int, .int, .int, .int]
  staticTypes := #[(.object "com/example/stackweave/stackweave/classfile/ValueKind"), (.object "com/example/stackweave/stackweave/classfile/ValueKind"), (.object "com/example/stackweave/stackweave/classfile/ValueKind"), (.object "com/example/stackweave/stackweave/classfile/ValueKind"), (.object "com/example/stackweave/stackweave/classfile/ValueKind"), (.object "com/example/stackweave/stackweave/classfile/ValueKind"), (.array (.object "com/example/stackweave/stackweave/classfile/ValueKind"))]
  resolved := Array.replicate 134 none
  statics := some 1 }

def pool13 : Array CpInfo := pool [(4, .class_ 6), (1, u "java/lang/Object"), (0, u "<init>"), (0, u "()V"), (5, .class_ 16), (1, u "java/lang/StringLatin1"), (104, u "$assertionsDisabled"), (0, u "Z"), (98, .class_ 223), (1, u "java/lang/StringLatin1$LinesSpliterator"), (166, .class_ 391), (0, u "java/lang/StringLatin1$CharsSpliterator")] 3

def k13m0 : Method := { name := "<init>", desc := "()V", sig := { parameters := [], returnType := none }, accessFlags := 0, code := none }
/-- java/lang/StringLatin1 -/
def k13 : Class := { plain "java/lang/StringLatin1" (some 0) with
  accessFlags := 48
  interfaces := #[]
  cf := some (fileOf pool13 14 #[.nestMembers #[390, 221]] #[{ accessFlags := 0, nameIndex := 7, descriptorIndex := 8, attributes := #[] }] 48 4 #[] #[{ accessFlags := 4120, nameIndex := 121, descriptorIndex := 122, attributes := #[] }])
  fields := #[{ name := "$assertionsDisabled", type := .boolean, accessFlags := 4120, slot := 0, constantValue := 0 }]
  methods := #[k13m0]
  instanceTypes := #[]
  staticTypes := #[.boolean]
  resolved := Array.replicate 395 none
  statics := none }

def pool14 : Array CpInfo := pool [(2, .class_ 4), (1, u "java/lang/Object"), (0, u "<init>"), (0, u "()V"), (17, .class_ 26), (1, u "jdk/internal/util/Preconditions"), (28, .class_ 56), (0, u "jdk/internal/util/Preconditions$4"), (57, .class_ 115), (0, u "jdk/internal/util/Preconditions$1"), (7, u "SIOOBE_FORMATTER"), (0, u "Ljava/util/function/BiFunction;"), (0, .class_ 126), (0, u "jdk/internal/util/Preconditions$2"), (3, u "AIOOBE_FORMATTER"), (0, .class_ 132), (0, u "jdk/internal/util/Preconditions$3"), (3, u "IOOBE_FORMATTER")] 57

def k14m0 : Method := { name := "<init>", desc := "()V", sig := { parameters := [], returnType := none }, accessFlags := 1, code := none }
/-- jdk/internal/util/Preconditions -/
def k14 : Class := { plain "jdk/internal/util/Preconditions" (some 0) with
  accessFlags := 33
  interfaces := #[]
  cf := some (fileOf pool14 24 #[.nestMembers #[55, 131, 125, 114]] #[{ accessFlags := 1, nameIndex := 5, descriptorIndex := 6, attributes := #[] }] 33 2 #[] #[{ accessFlags := 25, nameIndex := 123, descriptorIndex := 124, attributes := #[] }, { accessFlags := 25, nameIndex := 130, descriptorIndex := 124, attributes := #[] }, { accessFlags := 25, nameIndex := 136, descriptorIndex := 124, attributes := #[] }])
  fields := #[{ name := "SIOOBE_FORMATTER", type := (.object "java/util/function/BiFunction"), accessFlags := 25, slot := 0, constantValue := 0 }, { name := "AIOOBE_FORMATTER", type := (.object "java/util/function/BiFunction"), accessFlags := 25, slot := 1, constantValue := 0 }, { name := "IOOBE_FORMATTER", type := (.object "java/util/function/BiFunction"), accessFlags := 25, slot := 2, constantValue := 0 }]
  methods := #[k14m0]
  instanceTypes := #[]
  staticTypes := #[(.object "java/util/function/BiFunction"), (.object "java/util/function/BiFunction"), (.object "java/util/function/BiFunction")]
  resolved := Array.replicate 194 none
  statics := some 2 }

def pool15 : Array CpInfo := pool [(9, u "<init>"), (6, .class_ 18), (1, u "java/lang/Object"), (0, u "()V"), (1, .class_ 23), (1, u "jdk/internal/util/ArraysSupport"), (0, u "LOG2_ARRAY_LONG_INDEX_SCALE"), (0, u "I"), (2, u "U"), (0, u "Ljdk/internal/misc/Unsafe;"), (8, u "BIG_ENDIAN"), (0, u "Z"), (8, u "LOG2_BYTE_BIT_SIZE"), (4, u "LOG2_ARRAY_INT_INDEX_SCALE"), (54, u "JLA"), (0, u "Ljdk/internal/access/JavaLangAccess;"), (11, u "LOG2_ARRAY_BOOLEAN_INDEX_SCALE"), (9, u "LOG2_ARRAY_BYTE_INDEX_SCALE"), (5, u "LOG2_ARRAY_CHAR_INDEX_SCALE"), (5, u "LOG2_ARRAY_SHORT_INDEX_SCALE"), (18, u "LOG2_ARRAY_FLOAT_INDEX_SCALE"), (24, u "LOG2_ARRAY_DOUBLE_INDEX_SCALE"), (89, u "T_BOOLEAN"), (2, u "T_CHAR"), (1, u "T_FLOAT"), (1, u "T_DOUBLE"), (1, u "T_BYTE"), (1, u "T_SHORT"), (1, u "T_INT"), (1, u "T_LONG"), (1, u "SOFT_MAX_ARRAY_LENGTH")] 83

def k15m0 : Method := { name := "<init>", desc := "()V", sig := { parameters := [], returnType := none }, accessFlags := 2, code := none }
/-- jdk/internal/util/ArraysSupport -/
def k15 : Class := { plain "jdk/internal/util/ArraysSupport" (some 0) with
  accessFlags := 33
  interfaces := #[]
  cf := some (fileOf pool15 21 #[] #[{ accessFlags := 2, nameIndex := 9, descriptorIndex := 19, attributes := #[] }] 33 16 #[] #[{ accessFlags := 24, nameIndex := 28, descriptorIndex := 29, attributes := #[] }, { accessFlags := 26, nameIndex := 38, descriptorIndex := 39, attributes := #[] }, { accessFlags := 25, nameIndex := 121, descriptorIndex := 25, attributes := #[] }, { accessFlags := 25, nameIndex := 131, descriptorIndex := 25, attributes := #[] }, { accessFlags := 25, nameIndex := 137, descriptorIndex := 25, attributes := #[] }, { accessFlags := 25, nameIndex := 143, descriptorIndex := 25, attributes := #[] }, { accessFlags := 25, nameIndex := 53, descriptorIndex := 25, attributes := #[] }, { accessFlags := 25, nameIndex := 24, descriptorIndex := 25, attributes := #[] }, { accessFlags := 25, nameIndex := 162, descriptorIndex := 25, attributes := #[] }, { accessFlags := 25, nameIndex := 187, descriptorIndex := 25, attributes := #[] }, { accessFlags := 26, nameIndex := 48, descriptorIndex := 25, attributes := #[] }, { accessFlags := 25, nameIndex := 277, descriptorIndex := 25, attributes := #[] }, { accessFlags := 25, nameIndex := 280, descriptorIndex := 25, attributes := #[] }, { accessFlags := 25, nameIndex := 282, descriptorIndex := 25, attributes := #[] }, { accessFlags := 25, nameIndex := 284, descriptorIndex := 25, attributes := #[] }, { accessFlags := 25, nameIndex := 286, descriptorIndex := 25, attributes := #[] }, { accessFlags := 25, nameIndex := 288, descriptorIndex := 25, attributes := #[] }, { accessFlags := 25, nameIndex := 290, descriptorIndex := 25, attributes := #[] }, { accessFlags := 25, nameIndex := 292, descriptorIndex := 25, attributes := #[] }, { accessFlags := 26, nameIndex := 108, descriptorIndex := 109, attributes := #[] }, { accessFlags := 25, nameIndex := 294, descriptorIndex := 25, attributes := #[] }])
  fields := #[{ name := "U", type := (.object "jdk/internal/misc/Unsafe"), accessFlags := 24, slot := 0, constantValue := 0 }, { name := "BIG_ENDIAN", type := .boolean, accessFlags := 26, slot := 1, constantValue := 0 }, { name := "LOG2_ARRAY_BOOLEAN_INDEX_SCALE", type := .int, accessFlags := 25, slot := 2, constantValue := 0 }, { name := "LOG2_ARRAY_BYTE_INDEX_SCALE", type := .int, accessFlags := 25, slot := 3, constantValue := 0 }, { name := "LOG2_ARRAY_CHAR_INDEX_SCALE", type := .int, accessFlags := 25, slot := 4, constantValue := 0 }, { name := "LOG2_ARRAY_SHORT_INDEX_SCALE", type := .int, accessFlags := 25, slot := 5, constantValue := 0 }, { name := "LOG2_ARRAY_INT_INDEX_SCALE", type := .int, accessFlags := 25, slot := 6, constantValue := 0 }, { name := "LOG2_ARRAY_LONG_INDEX_SCALE", type := .int, accessFlags := 25, slot := 7, constantValue := 0 }, { name := "LOG2_ARRAY_FLOAT_INDEX_SCALE", type := .int, accessFlags := 25, slot := 8, constantValue := 0 }, { name := "LOG2_ARRAY_DOUBLE_INDEX_SCALE", type := .int, accessFlags := 25, slot := 9, constantValue := 0 }, { name := "LOG2_BYTE_BIT_SIZE", type := .int, accessFlags := 26, slot := 10, constantValue := 0 }, { name := "T_BOOLEAN", type := .int, accessFlags := 25, slot := 11, constantValue := 0 }, { name := "T_CHAR", type := .int, accessFlags := 25, slot := 12, constantValue := 0 }, { name := "T_FLOAT", type := .int, accessFlags := 25, slot := 13, constantValue := 0 }, { name := "T_DOUBLE", type := .int, accessFlags := 25, slot := 14, constantValue := 0 }, { name := "T_BYTE", type := .int, accessFlags := 25, slot := 15, constantValue := 0 }, { name := "T_SHORT", type := .int, accessFlags := 25, slot := 16, constantValue := 0 }, { name := "T_INT", type := .int, accessFlags := 25, slot := 17, constantValue := 0 }, { name := "T_LONG", type := .int, accessFlags := 25, slot := 18, constantValue := 0 }, { name := "JLA", type := (.object "jdk/internal/access/JavaLangAccess"), accessFlags := 26, slot := 19, constantValue := 0 }, { name := "SOFT_MAX_ARRAY_LENGTH", type := .int, accessFlags := 25, slot := 20, constantValue := 0 }]
  methods := #[k15m0]
  instanceTypes := #[]
  staticTypes := #[(.object "jdk/internal/misc/Unsafe"), .boolean, .int, .int, .int, .int, .int, .int, .int, .int, .int, .int, .int, .int, .int, .int, .int, .int, .int, (.object "jdk/internal/access/JavaLangAccess"), .int]
  resolved := Array.replicate 378 none
  statics := none }

def pool16 : Array CpInfo := pool [(1, u "java/lang/Cloneable"), (0, .class_ 1), (0, u "java/lang/Object"), (0, .class_ 3)] 3

/-- java/lang/Cloneable -/
def k16 : Class := { plain "java/lang/Cloneable" (some 0) with
  accessFlags := 1537
  interfaces := #[]
  cf := some (fileOf pool16 2 #[] #[] 1537 4 #[] #[])
  fields := #[]
  methods := #[]
  instanceTypes := #[]
  staticTypes := #[]
  resolved := Array.replicate 8 none
  statics := none }

/-- the primitive byte -/
def k17 : Class := { plain "byte" none with kind := .primitive 'B', accessFlags := 0x411 }
/-- [B -/
def k18 : Class := { plain "[B" (some 0) with kind := .array 17 .byte, interfaces := #[16, 2], accessFlags := 1041 }

/-- the primitive char -/
def k19 : Class := { plain "char" none with kind := .primitive 'C', accessFlags := 0x411 }
/-- [C -/
def k20 : Class := { plain "[C" (some 0) with kind := .array 19 .char, interfaces := #[16, 2], accessFlags := 1041 }

/-- the primitive int -/
def k21 : Class := { plain "int" none with kind := .primitive 'I', accessFlags := 0x411 }
/-- [I -/
def k22 : Class := { plain "[I" (some 0) with kind := .array 21 .int, interfaces := #[16, 2], accessFlags := 1041 }

def heap : Heap := #[{ cls := 7, slots := #[.long 0, .int 1, .null, .int 0, .null, .int 0, .int 0], vm := .statics 7 },
  { cls := 12, slots := #[.ref 3, .ref 7, .ref 6, .ref 5, .ref 4, .null, .null], vm := .statics 12 },
  { cls := 14, slots := #[.null, .null, .null], vm := .statics 14 },
  { cls := 12, slots := #[.null, .int 0, .int 0, .int 0, .int 0, .int 0, .int 0, .int 0, .int 0, .int 0, .int 0], vm := .none },
  { cls := 12, slots := #[.null, .int 4, .int 0, .int 0, .int 0, .int 0, .int 0, .int 0, .int 0, .int 0, .int 0], vm := .none },
  { cls := 12, slots := #[.null, .int 3, .int 0, .int 0, .int 0, .int 0, .int 0, .int 0, .int 0, .int 0, .int 0], vm := .none },
  { cls := 12, slots := #[.null, .int 2, .int 0, .int 0, .int 0, .int 0, .int 0, .int 0, .int 0, .int 0, .int 0], vm := .none },
  { cls := 12, slots := #[.null, .int 1, .int 0, .int 0, .int 0, .int 0, .int 0, .int 0, .int 0, .int 0, .int 0], vm := .none }]
def classes : Array Class := #[k0, k1, k2, k3, k4, k5, k6, k7, k8, k9, k10, k11, k12, k13, k14, k15, k16, k17, k18, k19, k20, k21, k22]
def interned : List (Array UInt16 × Addr) := []
def slotsUsed : Nat := 72
def theMethod : MethodId := ⟨1, 1⟩
def args0 : Array Value := #[.int 7, .int 1, .int 3, .int 1]
def aboutOver (below : List Frame) : State where
  vm := { classes := classes, interned := interned.toArray }
  heap := heap
  slotsUsed := slotsUsed
  threads := #[{ frames := .invoking theMethod args0 :: below }]
def below0 : List Frame := [.native { method := ⟨0, 0⟩, args := #[] }]
def about1 : State := aboutOver below0
def p0 : Program := .bare "" "" ""
def e0 : Env := launch0.env 0 0 0
theorem w_frames : about1.frames = Frame.invoking theMethod args0 :: below0 := rfl
set_option maxRecDepth 65536 in
theorem w_args : argsFit about1.vm theMethod args0 = true := by decide +kernel
set_option maxRecDepth 65536 in
theorem w_heap : heapFits about1 = true := by decide +kernel
set_option maxRecDepth 65536 in
theorem w_runnable : about1.curStatus? = some .runnable := by decide +kernel
set_option maxRecDepth 65536 in
theorem w_alone : about1.alone = true := by decide +kernel
set_option maxRecDepth 65536 in
theorem w_named : about1.methodNamed? x = some theMethod := by decide +kernel
set_option maxRecDepth 65536 in
theorem w_hears : about1.hears theMethod below0 = true := by decide +kernel
set_option maxRecDepth 65536 in
theorem w_ripe : about1.ripe theMethod args0 below0 = true := by decide +kernel
theorem w_running : about1.status = .running := rfl
set_option maxRecDepth 65536 in
theorem w_room : about1.hasRoom e0.platform room_1 = true :=
  launch0.hasRoom_least _ room_1 (by decide +kernel) (by decide +kernel) (by decide +kernel) (by decide +kernel) (by decide +kernel) (by decide +kernel)
theorem allAtoms_all (ts : List Jvm.Cond) (a : Array Jvm.Value) (st : Jvm.State) : (allAtoms ts).before a st = ts.all (fun c => c.before a st) := by
  induction ts with
  | nil => rfl
  | cons c t ih =>
    show (Jvm.Cond.and c (allAtoms t)).before a st = _
    rw [Jvm.Cond.before_and, ih, List.all_cons]
def words1 : List Jvm.Cond := Jvm.Cond.code x code maxLocals ret :: tables_1
/-- a 'code' word, met by the world's own term for the bytes: nothing is compared byte by byte -/
theorem code_word {y : MethodName} {bytes : ByteArray} {mx : Nat} {rt : Option FieldType} {a : Array Value} {s : State} {m : MethodId} {meth : Method} {c : Code} (h1 : s.methodNamed? y = some m) (h2 : s.vm.method? m = some meth) (h3 : meth.code = some c) (h4 : c.code = bytes)
    (h5 : (c.maxLocals == mx && c.exceptionTable.isEmpty && decide (c.maxStack ≤ mostOperands) && decide (meth.sig.returnType = rt) && !meth.locks && decide (parseMethodDescriptor y.desc = some meth.sig)) = true) : (Jvm.Cond.code y bytes mx rt).before a s = true := by
  simp only [Bool.and_eq_true, beq_iff_eq, Bool.not_eq_true', decide_eq_true_eq] at h5
  obtain ⟨⟨⟨⟨⟨g1, g2⟩, g3⟩, g4⟩, g5⟩, g6⟩ := h5
  simp [Cond.before, Cond.holds, Cond.value, h1, h2, h3, h4, g1, g2, g3, g4, g5, g6]
def isCode : Jvm.Cond → Bool
  | .code _ _ _ _ => true
  | _ => false
theorem all_split {L : List Jvm.Cond} {P : Jvm.Cond → Bool} (h1 : L.all (fun c => isCode c || P c) = true) (h2 : ∀ c ∈ L.filter isCode, P c = true) : L.all P = true := by
  refine List.all_eq_true.mpr fun c hc => ?_
  have h := List.all_eq_true.mp h1 c hc
  rcases Bool.eq_false_or_eq_true (isCode c) with hi | hi
  · exact h2 c (List.mem_filter.mpr ⟨hc, hi⟩)
  · simpa [hi] using h
set_option maxRecDepth 65536 in
theorem w_c0 : (Jvm.Cond.code x code maxLocals ret).before args0 about1 = true := code_word (m := ⟨1, 1⟩) (meth := k1m1) (c := k1c1) (by decide +kernel) rfl rfl rfl (by decide +kernel)
set_option maxRecDepth 65536 in
theorem w_c1 : (Jvm.Cond.code ({ cls := "java/lang/String", name := "<init>", desc := "([C)V" } : Jvm.MethodName) jdk_42_method_3_code (2 : Nat) (Option.none : Option Jvm.ClassFile.FieldType)).before args0 about1 = true := code_word (m := ⟨7, 1⟩) (meth := k7m1) (c := k7c1) (by decide +kernel) rfl rfl rfl (by decide +kernel)
set_option maxRecDepth 65536 in
theorem w_c2 : (Jvm.Cond.code ({ cls := "java/lang/String", name := "<init>", desc := "([CIILjava/lang/Void;)V" } : Jvm.MethodName) jdk_42_method_149_code (6 : Nat) (Option.none : Option Jvm.ClassFile.FieldType)).before args0 about1 = true := code_word (m := ⟨7, 2⟩) (meth := k7m2) (c := k7c2) (by decide +kernel) rfl rfl rfl (by decide +kernel)
set_option maxRecDepth 65536 in
theorem w_c3 : (Jvm.Cond.code ({ cls := "java/lang/Object", name := "<init>", desc := "()V" } : Jvm.MethodName) object_method_1_code (1 : Nat) (Option.none : Option Jvm.ClassFile.FieldType)).before args0 about1 = true := code_word (m := ⟨0, 0⟩) (meth := k0m0) (c := k0c0) (by decide +kernel) rfl rfl rfl (by decide +kernel)
set_option maxRecDepth 65536 in
theorem w_c4 : (Jvm.Cond.code ({ cls := "java/lang/StringUTF16", name := "compress", desc := "([CII)[B" } : Jvm.MethodName) jdk_52_method_16_code (6 : Nat) (Option.some (Jvm.ClassFile.FieldType.array Jvm.ClassFile.FieldType.byte))).before args0 about1 = true := code_word (m := ⟨8, 2⟩) (meth := k8m2) (c := k8c2) (by decide +kernel) rfl rfl rfl (by decide +kernel)
set_option maxRecDepth 65536 in
theorem w_c5 : (Jvm.Cond.code ({ cls := "java/lang/StringUTF16", name := "compress", desc := "([CI[BII)I" } : Jvm.MethodName) jdk_52_method_21_code (7 : Nat) (Option.some Jvm.ClassFile.FieldType.int)).before args0 about1 = true := code_word (m := ⟨8, 3⟩) (meth := k8m3) (c := k8c3) (by decide +kernel) rfl rfl rfl (by decide +kernel)
set_option maxRecDepth 65536 in
theorem w_c6 : (Jvm.Cond.code ({ cls := "java/lang/StringUTF16", name := "coderFromArrayLen", desc := "([BI)B" } : Jvm.MethodName) jdk_52_method_15_code (2 : Nat) (Option.some Jvm.ClassFile.FieldType.byte)).before args0 about1 = true := code_word (m := ⟨8, 1⟩) (meth := k8m1) (c := k8c1) (by decide +kernel) rfl rfl rfl (by decide +kernel)
set_option maxRecDepth 65536 in
theorem w_c7 : (Jvm.Cond.code ({ cls := "com/example/stackweave/stackweave/classfile/VerificationType", name := "<init>", desc := "(ILjava/lang/String;I)V" } : Jvm.MethodName) prog_38_method_1_code (4 : Nat) (Option.none : Option Jvm.ClassFile.FieldType)).before args0 about1 = true := code_word (m := ⟨10, 0⟩) (meth := k10m0) (c := k10c0) (by decide +kernel) rfl rfl rfl (by decide +kernel)
set_option maxRecDepth 65536 in
theorem w_c8 : (Jvm.Cond.code ({ cls := "java/lang/Record", name := "<init>", desc := "()V" } : Jvm.MethodName) jdk_30_method_1_code (1 : Nat) (Option.none : Option Jvm.ClassFile.FieldType)).before args0 about1 = true := code_word (m := ⟨9, 0⟩) (meth := k9m0) (c := k9c0) (by decide +kernel) rfl rfl rfl (by decide +kernel)
set_option maxRecDepth 65536 in
theorem w_c9 : (Jvm.Cond.code ({ cls := "com/example/stackweave/stackweave/classfile/VerificationType", name := "isUninitialized", desc := "()Z" } : Jvm.MethodName) prog_38_method_11_code (1 : Nat) (Option.some Jvm.ClassFile.FieldType.boolean)).before args0 about1 = true := code_word (m := ⟨10, 2⟩) (meth := k10m2) (c := k10c2) (by decide +kernel) rfl rfl rfl (by decide +kernel)
set_option maxRecDepth 65536 in
theorem w_c10 : (Jvm.Cond.code ({ cls := "com/example/stackweave/stackweave/classfile/VerificationType", name := "kind", desc := "()Lcom/example/stackweave/stackweave/classfile/ValueKind;" } : Jvm.MethodName) prog_38_method_13_code (2 : Nat) (Option.some (Jvm.ClassFile.FieldType.object "com/example/stackweave/stackweave/classfile/ValueKind"))).before args0 about1 = true := code_word (m := ⟨10, 3⟩) (meth := k10m3) (c := k10c3) (by decide +kernel) rfl rfl rfl (by decide +kernel)
set_option maxRecDepth 65536 in
theorem w_c11 : (Jvm.Cond.code ({ cls := "com/example/stackweave/stackweave/classfile/VerificationType", name := "isReference", desc := "()Z" } : Jvm.MethodName) prog_38_method_10_code (1 : Nat) (Option.some Jvm.ClassFile.FieldType.boolean)).before args0 about1 = true := code_word (m := ⟨10, 1⟩) (meth := k10m1) (c := k10c1) (by decide +kernel) rfl rfl rfl (by decide +kernel)
def codes1 : List Jvm.Cond := [Jvm.Cond.code x code maxLocals ret, Jvm.Cond.code ({ cls := "java/lang/String", name := "<init>", desc := "([C)V" } : Jvm.MethodName) jdk_42_method_3_code (2 : Nat) (Option.none : Option Jvm.ClassFile.FieldType), Jvm.Cond.code ({ cls := "java/lang/String", name := "<init>", desc := "([CIILjava/lang/Void;)V" } : Jvm.MethodName) jdk_42_method_149_code (6 : Nat) (Option.none : Option Jvm.ClassFile.FieldType), Jvm.Cond.code ({ cls := "java/lang/Object", name := "<init>", desc := "()V" } : Jvm.MethodName) object_method_1_code (1 : Nat) (Option.none : Option Jvm.ClassFile.FieldType), Jvm.Cond.code ({ cls := "java/lang/StringUTF16", name := "compress", desc := "([CII)[B" } : Jvm.MethodName) jdk_52_method_16_code (6 : Nat) (Option.some (Jvm.ClassFile.FieldType.array Jvm.ClassFile.FieldType.byte)), Jvm.Cond.code ({ cls := "java/lang/StringUTF16", name := "compress", desc := "([CI[BII)I" } : Jvm.MethodName) jdk_52_method_21_code (7 : Nat) (Option.some Jvm.ClassFile.FieldType.int), Jvm.Cond.code ({ cls := "java/lang/StringUTF16", name := "coderFromArrayLen", desc := "([BI)B" } : Jvm.MethodName) jdk_52_method_15_code (2 : Nat) (Option.some Jvm.ClassFile.FieldType.byte), Jvm.Cond.code ({ cls := "com/example/stackweave/stackweave/classfile/VerificationType", name := "<init>", desc := "(ILjava/lang/String;I)V" } : Jvm.MethodName) prog_38_method_1_code (4 : Nat) (Option.none : Option Jvm.ClassFile.FieldType), Jvm.Cond.code ({ cls := "java/lang/Record", name := "<init>", desc := "()V" } : Jvm.MethodName) jdk_30_method_1_code (1 : Nat) (Option.none : Option Jvm.ClassFile.FieldType), Jvm.Cond.code ({ cls := "com/example/stackweave/stackweave/classfile/VerificationType", name := "isUninitialized", desc := "()Z" } : Jvm.MethodName) prog_38_method_11_code (1 : Nat) (Option.some Jvm.ClassFile.FieldType.boolean), Jvm.Cond.code ({ cls := "com/example/stackweave/stackweave/classfile/VerificationType", name := "kind", desc := "()Lcom/example/stackweave/stackweave/classfile/ValueKind;" } : Jvm.MethodName) prog_38_method_13_code (2 : Nat) (Option.some (Jvm.ClassFile.FieldType.object "com/example/stackweave/stackweave/classfile/ValueKind")), Jvm.Cond.code ({ cls := "com/example/stackweave/stackweave/classfile/VerificationType", name := "isReference", desc := "()Z" } : Jvm.MethodName) prog_38_method_10_code (1 : Nat) (Option.some Jvm.ClassFile.FieldType.boolean)]
set_option maxRecDepth 65536 in
theorem codes_eq : words1.filter isCode = codes1 := rfl
theorem w_codes : ∀ c ∈ words1.filter isCode, c.before args0 about1 = true := by
  rw [codes_eq]
  intro c hc
  simp only [codes1, List.mem_cons, List.not_mem_nil, or_false] at hc
  rcases hc with rfl | rfl | rfl | rfl | rfl | rfl | rfl | rfl | rfl | rfl | rfl | rfl
  · exact w_c0
  · exact w_c1
  · exact w_c2
  · exact w_c3
  · exact w_c4
  · exact w_c5
  · exact w_c6
  · exact w_c7
  · exact w_c8
  · exact w_c9
  · exact w_c10
  · exact w_c11
set_option maxRecDepth 65536 in
theorem w_t1 : (words1.take 24).all (fun c => isCode c || c.before args0 about1) = true := by decide +kernel
set_option maxRecDepth 65536 in
theorem w_t2 : ((words1.drop 24).take 24).all (fun c => isCode c || c.before args0 about1) = true := by decide +kernel
set_option maxRecDepth 65536 in
theorem w_t3 : (((words1.drop 24).drop 24).take 24).all (fun c => isCode c || c.before args0 about1) = true := by decide +kernel
set_option maxRecDepth 65536 in
theorem w_t4 : (((words1.drop 24).drop 24).drop 24).all (fun c => isCode c || c.before args0 about1) = true := by decide +kernel
theorem w_tables : (allAtoms (Jvm.Cond.code x code maxLocals ret :: tables_1)).before args0 about1 = true := by
  rw [allAtoms_all]
  show words1.all (fun c => c.before args0 about1) = true
  refine all_split ?_ w_codes
  rw [← List.take_append_drop 24 words1, List.all_append, w_t1, ← List.take_append_drop 24 (words1.drop 24), List.all_append, w_t2, ← List.take_append_drop 24 ((words1.drop 24).drop 24), List.all_append, w_t3, w_t4]
  rfl
set_option maxRecDepth 65536 in
theorem w_rest : rest_1_c.before args0 about1 = true := by decide +kernel
set_option maxRecDepth 65536 in
theorem w_case : (Jvm.Cond.and given_1 narrow_1).before args0 about1 = true := by decide +kernel
theorem w_applies : (headSpec (Jvm.Cond.code x code maxLocals ret :: tables_1) room_1).applies x e0.platform about1 = true :=
  (Spec.applies_iff w_frames).mpr ⟨w_running, w_runnable, w_alone, w_named, w_hears, w_ripe, w_room, w_tables⟩
theorem atStart : AtStart classFile x code maxLocals ret World_1 tables_1 room_1 Calls_1 rest_1 Pre_1 launch0 p0 e0 about1 theMethod args0 below0 :=
  ⟨lists_1, trivial, launch0.admits_env _ _ _, launch0.least_env, fairChoices_fair.cas, fairChoices_fair.clock, w_frames, w_args, w_heap, w_applies, trivial, w_rest, w_case⟩
end start1
theorem witness_1 : WitnessClaimed_1 := ⟨start1.p0, start1.e0, start1.about1, start1.theMethod, start1.args0, start1.below0, start1.atStart⟩
end Jvm.Pilot.@@N@@
