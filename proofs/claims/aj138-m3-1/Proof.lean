import JvmDerived
import JvmDerived.Pilot.@@N@@Statement
import JvmDerived.Pilot.@@N@@Code
set_option linter.unusedVariables false
set_option linter.unusedSimpArgs false
namespace Jvm.Pilot.@@N@@
open Jvm Jvm.ClassFile Sem Op Lib Jvm.Free Jvm.Stand Jvm.LawKit Jvm.RoadKit Bundle Jvm.Pilot.@@N@@.Jvm.D
theorem own_nei {args : Array Value} {s : State} {t : Term} {k x : Int32} (h : (Jvm.Cond.not (Jvm.Cond.eq t (.int k))).value args s none s [] = some true) (ht : t.eval args s none [] s = some (.int x)) : ¬ (x = k) := by
  have h1 := not_v h
  simp only [Cond.value, ht, Term.eval] at h1
  intro e
  subst e
  simp at h1
theorem own_i2b2 (x : Int32) : (x.toInt8.toInt32).toInt8.toInt32 = x.toInt8.toInt32 := by
  have h1 := c_i2b x
  have h2 := c_i2b (x.toInt8.toInt32)
  apply Int32.toInt_inj.mp
  omega
theorem own_le255 (x : Int32) : ¬ ((255 : Int32) < (x &&& (255 : Int32))) := by
  have h := c_mask x 255 8 (by decide) (by decide)
  have h2 : (255 : Int32).toInt = 255 := rfl
  rw [Int32.lt_iff_toInt_lt, h, h2]
  omega
theorem d1_0 : decode jdk_42_method_3_code 0 = .ok (.aload_n 0, 1) := by decide +kernel
theorem d1_1 : decode jdk_42_method_3_code 1 = .ok (.aload_n 1, 1) := by decide +kernel
theorem d1_2 : decode jdk_42_method_3_code 2 = .ok (.iconst 0, 1) := by decide +kernel
theorem d1_3 : decode jdk_42_method_3_code 3 = .ok (.aload_n 1, 1) := by decide +kernel
theorem d1_4 : decode jdk_42_method_3_code 4 = .ok (.arraylength, 1) := by decide +kernel
theorem d1_5 : decode jdk_42_method_3_code 5 = .ok (.aconst_null, 1) := by decide +kernel
theorem d1_6 : decode jdk_42_method_3_code 6 = .ok (.invokespecial 27, 3) := by decide +kernel
theorem d2_0 : decode jdk_42_method_149_code 0 = .ok (.aload_n 0, 1) := by decide +kernel
theorem d2_1 : decode jdk_42_method_149_code 1 = .ok (.invokespecial 1, 3) := by decide +kernel
theorem d2_4 : decode jdk_42_method_149_code 4 = .ok (.iload_n 3, 1) := by decide +kernel
theorem d2_5 : decode jdk_42_method_149_code 5 = .ok (.ifCond .ne 22, 3) := by decide +kernel
theorem d2_27 : decode jdk_42_method_149_code 27 = .ok (.getstatic 38, 3) := by decide +kernel
theorem d2_30 : decode jdk_42_method_149_code 30 = .ok (.ifCond .eq 28, 3) := by decide +kernel
theorem d2_33 : decode jdk_42_method_149_code 33 = .ok (.aload_n 1, 1) := by decide +kernel
theorem d2_34 : decode jdk_42_method_149_code 34 = .ok (.iload_n 2, 1) := by decide +kernel
theorem d2_35 : decode jdk_42_method_149_code 35 = .ok (.iload_n 3, 1) := by decide +kernel
theorem d2_36 : decode jdk_42_method_149_code 36 = .ok (.invokestatic 177, 3) := by decide +kernel
theorem d3_0 : decode jdk_52_method_16_code 0 = .ok (.iload_n 2, 1) := by decide +kernel
theorem d3_1 : decode jdk_52_method_16_code 1 = .ok (.newarray .byte, 2) := by decide +kernel
theorem d3_3 : decode jdk_52_method_16_code 3 = .ok (.astore_n 3, 1) := by decide +kernel
theorem d3_4 : decode jdk_52_method_16_code 4 = .ok (.aload_n 0, 1) := by decide +kernel
theorem d3_5 : decode jdk_52_method_16_code 5 = .ok (.iload_n 1, 1) := by decide +kernel
theorem d3_6 : decode jdk_52_method_16_code 6 = .ok (.aload_n 3, 1) := by decide +kernel
theorem d3_7 : decode jdk_52_method_16_code 7 = .ok (.iconst 0, 1) := by decide +kernel
theorem d3_8 : decode jdk_52_method_16_code 8 = .ok (.iload_n 2, 1) := by decide +kernel
theorem d3_9 : decode jdk_52_method_16_code 9 = .ok (.invokestatic 115, 3) := by decide +kernel
theorem d4_0 : decode jdk_52_method_21_code 0 = .ok (.iconst 0, 1) := by decide +kernel
theorem d4_1 : decode jdk_52_method_21_code 1 = .ok (.istore 5, 2) := by decide +kernel
theorem d4_3 : decode jdk_52_method_21_code 3 = .ok (.iload 5, 2) := by decide +kernel
theorem d4_5 : decode jdk_52_method_21_code 5 = .ok (.iload 4, 2) := by decide +kernel
theorem d4_7 : decode jdk_52_method_21_code 7 = .ok (.if_icmp .ge 37, 3) := by decide +kernel
theorem d4_10 : decode jdk_52_method_21_code 10 = .ok (.aload_n 0, 1) := by decide +kernel
theorem d4_11 : decode jdk_52_method_21_code 11 = .ok (.iload_n 1, 1) := by decide +kernel
theorem d4_12 : decode jdk_52_method_21_code 12 = .ok (.caload, 1) := by decide +kernel
theorem d4_13 : decode jdk_52_method_21_code 13 = .ok (.istore 6, 2) := by decide +kernel
theorem d4_15 : decode jdk_52_method_21_code 15 = .ok (.iload 6, 2) := by decide +kernel
theorem d4_17 : decode jdk_52_method_21_code 17 = .ok (.sipush 255, 3) := by decide +kernel
theorem d4_20 : decode jdk_52_method_21_code 20 = .ok (.if_icmp .le 6, 3) := by decide +kernel
theorem d4_26 : decode jdk_52_method_21_code 26 = .ok (.aload_n 2, 1) := by decide +kernel
theorem d4_27 : decode jdk_52_method_21_code 27 = .ok (.iload_n 3, 1) := by decide +kernel
theorem d4_28 : decode jdk_52_method_21_code 28 = .ok (.iload 6, 2) := by decide +kernel
theorem d4_30 : decode jdk_52_method_21_code 30 = .ok (.i2b, 1) := by decide +kernel
theorem d4_31 : decode jdk_52_method_21_code 31 = .ok (.bastore, 1) := by decide +kernel
theorem d4_32 : decode jdk_52_method_21_code 32 = .ok (.iinc 1 1, 3) := by decide +kernel
theorem d4_35 : decode jdk_52_method_21_code 35 = .ok (.iinc 3 1, 3) := by decide +kernel
theorem d4_38 : decode jdk_52_method_21_code 38 = .ok (.iinc 5 1, 3) := by decide +kernel
theorem d4_41 : decode jdk_52_method_21_code 41 = .ok (.goto (-38), 3) := by decide +kernel
theorem d4_44 : decode jdk_52_method_21_code 44 = .ok (.iload 4, 2) := by decide +kernel
theorem d4_46 : decode jdk_52_method_21_code 46 = .ok (.ireturn, 1) := by decide +kernel
theorem pn_0 : plainName "java/lang/StringUTF16" = true := by first | (simp [plainName, overriddenIn]; done) | decide +kernel
theorem efcompress5 (m : MethodId) (o0_ : Addr) (o1_ : Addr) : entryFrame m #[(.ref o0_), (.int (0 : Int32)), (.ref o1_), (.int (0 : Int32)), (.int (2 : Int32))] 7 = mkF m 0 #[.val (.ref o0_), .val (.int (0 : Int32)), .val (.ref o1_), .val (.int (0 : Int32)), .val (.int (2 : Int32)), .unset, .unset] [] := by first | (simp [entryFrame, mkF, argsToLocals, Value.category]; done) | rfl
def Qcompress5 (Z : State) (o0_ : Addr) (o1_ : Addr) (ko0_ : ClassId) (x0_ : Int32) (x1_ : Int32) (ko1_ : ClassId) (h0 : Heap) (n0 : Nat) (v : Option Value) (h : Heap) (L : List Loc) : Prop := v = some (.int (2 : Int32)) ∧ Fr n0 L ∧ Keep h0 h [o1_] ∧ Arv Z h o1_ ko1_ .byte (2 : Int32) [(.int (x0_.toInt8.toInt32)), (.int (x1_.toInt8.toInt32))] (.int (0 : Int32)) ∧ Exa Z h o1_ "[B"
set_option maxRecDepth 65536 in
set_option maxHeartbeats 40000000 in
theorem rmcompress5 (l : Launch) (Z : State) (a0 : Array Value) (hw : ∀ d ∈ tables_1, d.before a0 Z = true) (ws : List Jvm.Cond) (o0_ : Addr) (o1_ : Addr) (ko0_ : ClassId) (x0_ : Int32) (x1_ : Int32) (ko1_ : ClassId) (h0 : Heap) (n0 : Nat) (O0 : Old Z n0 h0) (ha0 : ¬ ((255 : Int32) < x0_)) (ha1 : ¬ ((255 : Int32) < x1_)) (P2 : Arv Z h0 o0_ ko0_ .char (2 : Int32) [(.int x0_), (.int x1_)] (.int (0 : Int32))) (P3 : Exa Z h0 o0_ "[C") (P4 : Arv Z h0 o1_ ko1_ .byte (2 : Int32) [(.int (0 : Int32)), (.int (0 : Int32))] (.int (0 : Int32))) (P5 : Exa Z h0 o1_ "[B") (P6 : n0 ≤ o1_) (P7 : o0_ ≠ o1_) :
    MetFree l (⟨"java/lang/StringUTF16", "compress", "([CI[BII)I"⟩ : MethodName) (head1 (Jvm.Cond.code (⟨"java/lang/StringUTF16", "compress", "([CI[BII)I"⟩ : MethodName) jdk_52_method_21_code 7 (some .int) :: ws) ({ frames := 0, cells := 0, slots := 0, locals := 0 } : Room)) (fun a U => a = #[(.ref o0_), (.int (0 : Int32)), (.ref o1_), (.int (0 : Int32)), (.int (2 : Int32))] ∧ Z.Warmed39 U.vm ∧ U.heap = h0) (fun _ _ _ _ _ => True) (fun _ U o U' => ∃ v L, o = .returned v ∧ Qcompress5 Z o0_ o1_ ko0_ x0_ x1_ ko1_ h0 n0 v U'.heap L ∧ FrameEnd U o U' L ({ frames := 0, cells := 0, slots := 0, locals := 0 } : Room).cells ({ frames := 0, cells := 0, slots := 0, locals := 0 } : Room).slots) := by
  refine MetFree.of_bodySF (plainFor_of_name pn_0) hisR ?_
  intro p e s m args below meth c s₁ Bd hml0 hP hK
  obtain ⟨rfl, hZ, hh⟩ := hP
  have hx := Bd.exec
  have hby := Bd.bytes
  have hml : c.maxLocals = 7 := hml0
  have hown : s.vm.findClass "java/lang/StringUTF16" = some m.cls := findClass_of_methodNamed Bd.named
  have hnm := (name_of_methodNamed Bd.named Bd.method).1
  have X0 : Stand p l e ({ frames := 0, cells := 0, slots := 0, locals := 0 } : Room) s m #[(.ref o0_), (.int (0 : Int32)), (.ref o1_), (.int (0 : Int32)), (.int (2 : Int32))] below meth c s₁ [] 0 0 := Stand.of_body Bd
  have e0 : s₁.heap = h0 := by rw [← hh, Bd.state]; rfl
  have N0 := Fr.nil n0
  have pre0 : ∀ t, Steps p.tables e below (s₁.setTop (mkF m 0 #[.val (.ref o0_), .val (.int (0 : Int32)), .val (.ref o1_), .val (.int (0 : Int32)), .val (.int (2 : Int32)), .unset, .unset] [])) t → Steps p.tables e below (s₁.setTop (entryFrame m #[(.ref o0_), (.int (0 : Int32)), (.ref o1_), (.int (0 : Int32)), (.int (2 : Int32))] 7)) t := fun t k => castTop (efcompress5 m o0_ o1_) k
  have K0 : Keep h0 h0 [o1_] := Keep.refl _ _
  obtain ⟨c1, r1, q1, s1, z1, y1, G1⟩ := id P2
  have hin1 : ¬ ((0 : Int32) < 0 ∨ c1.slots.size ≤ ((0 : Int32)).toNatClampNeg) := inb_of s1 ⟨by decide, by decide⟩
  have hat1 : c1.slots[((0 : Int32)).toNatClampNeg]? = some (.int x0_) := Has.at y1 hin1 rfl
  obtain ⟨c2, r2, q2, s2, z2, y2, G2⟩ := id P4
  have hin2 : ¬ ((0 : Int32) < 0 ∨ c2.slots.size ≤ ((0 : Int32)).toNatClampNeg) := inb_of s2 ⟨by decide, by decide⟩
  obtain ⟨T2, h2, X2, e2, W2, st2⟩ := stB X0 hx hZ e0 r2 (j := (0 : Int32)) hin2 (g := (mkF m 31 #[.val (.ref o0_), .val (.int (0 : Int32)), .val (.ref o1_), .val (.int (0 : Int32)), .val (.int (2 : Int32)), .val (.int (0 : Int32)), .val (.int x0_)] [(.int (x0_.toInt8.toInt32)), (.int (0 : Int32)), (.ref o1_)])) rfl rfl (hb hby d4_31)
  have N3 := Fr.snoc X2 N0 P6
  have f4 : Arv Z h2 o1_ ko1_ .byte (2 : Int32) [(.int ((x0_.toInt8.toInt32).toInt8.toInt32)), (.int (0 : Int32))] (.int (0 : Int32)) := Arv.set r2 q2 s2 z2 y2 G2 (fits_nar_byte _) W2 0 rfl (Nat.le_of_ble_eq_true rfl)
  have f5 : Arv Z h2 o1_ ko1_ .byte (2 : Int32) [(.int (x0_.toInt8.toInt32)), (.int (0 : Int32))] (.int (0 : Int32)) := by have q := f4; rw [own_i2b2] at q; exact q
  have f6 : Arv Z h2 o0_ ko0_ .char (2 : Int32) [(.int x0_), (.int x1_)] (.int (0 : Int32)) := P2.other W2 P7
  obtain ⟨c7, r7, q7, s7, z7, y7, G7⟩ := id f6
  have hin7 : ¬ ((1 : Int32) < 0 ∨ c7.slots.size ≤ ((1 : Int32)).toNatClampNeg) := inb_of s7 ⟨by decide, by decide⟩
  have hat7 : c7.slots[((1 : Int32)).toNatClampNeg]? = some (.int x1_) := Has.at y7 hin7 rfl
  obtain ⟨c8, r8, q8, s8, z8, y8, G8⟩ := id f5
  have hin8 : ¬ ((1 : Int32) < 0 ∨ c8.slots.size ≤ ((1 : Int32)).toNatClampNeg) := inb_of s8 ⟨by decide, by decide⟩
  obtain ⟨T8, h8, X8, e8, W8, st8⟩ := stB X2 hx hZ e2 r8 (j := (1 : Int32)) hin8 (g := (mkF m 31 #[.val (.ref o0_), .val (.int (1 : Int32)), .val (.ref o1_), .val (.int (1 : Int32)), .val (.int (2 : Int32)), .val (.int (1 : Int32)), .val (.int x1_)] [(.int (x1_.toInt8.toInt32)), (.int (1 : Int32)), (.ref o1_)])) rfl rfl (hb hby d4_31)
  have N9 := Fr.snoc X8 N3 P6
  have f10 : Arv Z h8 o1_ ko1_ .byte (2 : Int32) [(.int (x0_.toInt8.toInt32)), (.int ((x1_.toInt8.toInt32).toInt8.toInt32))] (.int (0 : Int32)) := Arv.set r8 q8 s8 z8 y8 G8 (fits_nar_byte _) W8 1 rfl (Nat.le_of_ble_eq_true rfl)
  have f11 : Arv Z h8 o1_ ko1_ .byte (2 : Int32) [(.int (x0_.toInt8.toInt32)), (.int (x1_.toInt8.toInt32))] (.int (0 : Int32)) := by have q := f10; rw [own_i2b2] at q; exact q
  have pre12 : ∀ t, Steps p.tables e below (T8.setTop (mkF m 46 #[.val (.ref o0_), .val (.int (2 : Int32)), .val (.ref o1_), .val (.int (2 : Int32)), .val (.int (2 : Int32)), .val (.int (2 : Int32)), .val (.int x1_)] [(.int (2 : Int32))])) t → Steps p.tables e below (s₁.setTop (entryFrame m #[(.ref o0_), (.int (0 : Int32)), (.ref o1_), (.int (0 : Int32)), (.int (2 : Int32))] 7)) t := by
    intro t kt
    refine pre0 t ?_
    show Steps p.tables e below (s₁.setTop (mkF m 0 #[.val (.ref o0_), .val (.int (0 : Int32)), .val (.ref o1_), .val (.int (0 : Int32)), .val (.int (2 : Int32)), .unset, .unset] [])) _
    refine XS.iconst X0.here hx rfl (hb hby d4_0) ?_
    show Steps p.tables e below (s₁.setTop (mkF m 1 #[.val (.ref o0_), .val (.int (0 : Int32)), .val (.ref o1_), .val (.int (0 : Int32)), .val (.int (2 : Int32)), .unset, .unset] [(.int (0 : Int32))])) _
    refine XS.istore X0.here hx rfl (hb hby d4_1) rfl (l' := #[.val (.ref o0_), .val (.int (0 : Int32)), .val (.ref o1_), .val (.int (0 : Int32)), .val (.int (2 : Int32)), .val (.int (0 : Int32)), .unset]) rfl ?_
    show Steps p.tables e below (s₁.setTop (mkF m 3 #[.val (.ref o0_), .val (.int (0 : Int32)), .val (.ref o1_), .val (.int (0 : Int32)), .val (.int (2 : Int32)), .val (.int (0 : Int32)), .unset] [])) _
    refine XS.iload X0.here hx rfl (hb hby d4_3) rfl ?_
    show Steps p.tables e below (s₁.setTop (mkF m 5 #[.val (.ref o0_), .val (.int (0 : Int32)), .val (.ref o1_), .val (.int (0 : Int32)), .val (.int (2 : Int32)), .val (.int (0 : Int32)), .unset] [(.int (0 : Int32))])) _
    refine XS.iload X0.here hx rfl (hb hby d4_5) rfl ?_
    show Steps p.tables e below (s₁.setTop (mkF m 7 #[.val (.ref o0_), .val (.int (0 : Int32)), .val (.ref o1_), .val (.int (0 : Int32)), .val (.int (2 : Int32)), .val (.int (0 : Int32)), .unset] [(.int (2 : Int32)), (.int (0 : Int32))])) _
    refine XS.icmpNo X0.here hx rfl (hb hby d4_7) rfl (tlt (by decide : (0 : Int32) < (2 : Int32))).2.1 ?_
    show Steps p.tables e below (s₁.setTop (mkF m 10 #[.val (.ref o0_), .val (.int (0 : Int32)), .val (.ref o1_), .val (.int (0 : Int32)), .val (.int (2 : Int32)), .val (.int (0 : Int32)), .unset] [])) _
    refine XS.aloadN X0.here hx rfl (hb hby d4_10) rfl rfl ?_
    show Steps p.tables e below (s₁.setTop (mkF m 11 #[.val (.ref o0_), .val (.int (0 : Int32)), .val (.ref o1_), .val (.int (0 : Int32)), .val (.int (2 : Int32)), .val (.int (0 : Int32)), .unset] [(.ref o0_)])) _
    refine XS.iloadN X0.here hx rfl (hb hby d4_11) rfl ?_
    show Steps p.tables e below (s₁.setTop (mkF m 12 #[.val (.ref o0_), .val (.int (0 : Int32)), .val (.ref o1_), .val (.int (0 : Int32)), .val (.int (2 : Int32)), .val (.int (0 : Int32)), .unset] [(.int (0 : Int32)), (.ref o0_)])) _
    refine X0.caload hx (j := (0 : Int32)) (v := (.int x0_)) (by rw [e0]; exact r1.1) (State.isArrayOf_alike hZ.alike r1.2.1) r1.2.2 hin1 hat1 (g := (mkF m 12 #[.val (.ref o0_), .val (.int (0 : Int32)), .val (.ref o1_), .val (.int (0 : Int32)), .val (.int (2 : Int32)), .val (.int (0 : Int32)), .unset] [(.int (0 : Int32)), (.ref o0_)])) rfl rfl (hb hby d4_12) _ ?_
    show Steps p.tables e below (s₁.setTop (mkF m 13 #[.val (.ref o0_), .val (.int (0 : Int32)), .val (.ref o1_), .val (.int (0 : Int32)), .val (.int (2 : Int32)), .val (.int (0 : Int32)), .unset] [(.int x0_)])) _
    refine XS.istore X0.here hx rfl (hb hby d4_13) rfl (l' := #[.val (.ref o0_), .val (.int (0 : Int32)), .val (.ref o1_), .val (.int (0 : Int32)), .val (.int (2 : Int32)), .val (.int (0 : Int32)), .val (.int x0_)]) rfl ?_
    show Steps p.tables e below (s₁.setTop (mkF m 15 #[.val (.ref o0_), .val (.int (0 : Int32)), .val (.ref o1_), .val (.int (0 : Int32)), .val (.int (2 : Int32)), .val (.int (0 : Int32)), .val (.int x0_)] [])) _
    refine XS.iload X0.here hx rfl (hb hby d4_15) rfl ?_
    show Steps p.tables e below (s₁.setTop (mkF m 17 #[.val (.ref o0_), .val (.int (0 : Int32)), .val (.ref o1_), .val (.int (0 : Int32)), .val (.int (2 : Int32)), .val (.int (0 : Int32)), .val (.int x0_)] [(.int x0_)])) _
    refine XS.sipush X0.here hx rfl (hb hby d4_17) ?_
    show Steps p.tables e below (s₁.setTop (mkF m 20 #[.val (.ref o0_), .val (.int (0 : Int32)), .val (.ref o1_), .val (.int (0 : Int32)), .val (.int (2 : Int32)), .val (.int (0 : Int32)), .val (.int x0_)] [(.int (255 : Int32)), (.int x0_)])) _
    refine XS.icmpYes X0.here hx rfl (pc0 := 20) (pc' := 26) rfl (hb hby d4_20) rfl (flt ha0).2.2.2 (by decide) (by decide) ?_
    show Steps p.tables e below (s₁.setTop (mkF m 26 #[.val (.ref o0_), .val (.int (0 : Int32)), .val (.ref o1_), .val (.int (0 : Int32)), .val (.int (2 : Int32)), .val (.int (0 : Int32)), .val (.int x0_)] [])) _
    refine XS.aloadN X0.here hx rfl (hb hby d4_26) rfl rfl ?_
    show Steps p.tables e below (s₁.setTop (mkF m 27 #[.val (.ref o0_), .val (.int (0 : Int32)), .val (.ref o1_), .val (.int (0 : Int32)), .val (.int (2 : Int32)), .val (.int (0 : Int32)), .val (.int x0_)] [(.ref o1_)])) _
    refine XS.iloadN X0.here hx rfl (hb hby d4_27) rfl ?_
    show Steps p.tables e below (s₁.setTop (mkF m 28 #[.val (.ref o0_), .val (.int (0 : Int32)), .val (.ref o1_), .val (.int (0 : Int32)), .val (.int (2 : Int32)), .val (.int (0 : Int32)), .val (.int x0_)] [(.int (0 : Int32)), (.ref o1_)])) _
    refine XS.iload X0.here hx rfl (hb hby d4_28) rfl ?_
    show Steps p.tables e below (s₁.setTop (mkF m 30 #[.val (.ref o0_), .val (.int (0 : Int32)), .val (.ref o1_), .val (.int (0 : Int32)), .val (.int (2 : Int32)), .val (.int (0 : Int32)), .val (.int x0_)] [(.int x0_), (.int (0 : Int32)), (.ref o1_)])) _
    refine XS.i2b X0.here hx rfl (hb hby d4_30) rfl ?_
    show Steps p.tables e below (s₁.setTop (mkF m 31 #[.val (.ref o0_), .val (.int (0 : Int32)), .val (.ref o1_), .val (.int (0 : Int32)), .val (.int (2 : Int32)), .val (.int (0 : Int32)), .val (.int x0_)] [(.int (x0_.toInt8.toInt32)), (.int (0 : Int32)), (.ref o1_)])) _
    refine st2 _ ?_
    show Steps p.tables e below (T2.setTop (mkF m 32 #[.val (.ref o0_), .val (.int (0 : Int32)), .val (.ref o1_), .val (.int (0 : Int32)), .val (.int (2 : Int32)), .val (.int (0 : Int32)), .val (.int x0_)] [])) _
    refine XS.iinc X2.here hx rfl (hb hby d4_32) rfl (l' := #[.val (.ref o0_), .val (.int (1 : Int32)), .val (.ref o1_), .val (.int (0 : Int32)), .val (.int (2 : Int32)), .val (.int (0 : Int32)), .val (.int x0_)]) rfl ?_
    show Steps p.tables e below (T2.setTop (mkF m 35 #[.val (.ref o0_), .val (.int (1 : Int32)), .val (.ref o1_), .val (.int (0 : Int32)), .val (.int (2 : Int32)), .val (.int (0 : Int32)), .val (.int x0_)] [])) _
    refine XS.iinc X2.here hx rfl (hb hby d4_35) rfl (l' := #[.val (.ref o0_), .val (.int (1 : Int32)), .val (.ref o1_), .val (.int (1 : Int32)), .val (.int (2 : Int32)), .val (.int (0 : Int32)), .val (.int x0_)]) rfl ?_
    show Steps p.tables e below (T2.setTop (mkF m 38 #[.val (.ref o0_), .val (.int (1 : Int32)), .val (.ref o1_), .val (.int (1 : Int32)), .val (.int (2 : Int32)), .val (.int (0 : Int32)), .val (.int x0_)] [])) _
    refine XS.iinc X2.here hx rfl (hb hby d4_38) rfl (l' := #[.val (.ref o0_), .val (.int (1 : Int32)), .val (.ref o1_), .val (.int (1 : Int32)), .val (.int (2 : Int32)), .val (.int (1 : Int32)), .val (.int x0_)]) rfl ?_
    show Steps p.tables e below (T2.setTop (mkF m 41 #[.val (.ref o0_), .val (.int (1 : Int32)), .val (.ref o1_), .val (.int (1 : Int32)), .val (.int (2 : Int32)), .val (.int (1 : Int32)), .val (.int x0_)] [])) _
    refine XS.goto X2.here hx rfl (pc0 := 41) (pc' := 3) rfl (hb hby d4_41) (by decide) (by decide) ?_
    show Steps p.tables e below (T2.setTop (mkF m 3 #[.val (.ref o0_), .val (.int (1 : Int32)), .val (.ref o1_), .val (.int (1 : Int32)), .val (.int (2 : Int32)), .val (.int (1 : Int32)), .val (.int x0_)] [])) _
    refine XS.iload X2.here hx rfl (hb hby d4_3) rfl ?_
    show Steps p.tables e below (T2.setTop (mkF m 5 #[.val (.ref o0_), .val (.int (1 : Int32)), .val (.ref o1_), .val (.int (1 : Int32)), .val (.int (2 : Int32)), .val (.int (1 : Int32)), .val (.int x0_)] [(.int (1 : Int32))])) _
    refine XS.iload X2.here hx rfl (hb hby d4_5) rfl ?_
    show Steps p.tables e below (T2.setTop (mkF m 7 #[.val (.ref o0_), .val (.int (1 : Int32)), .val (.ref o1_), .val (.int (1 : Int32)), .val (.int (2 : Int32)), .val (.int (1 : Int32)), .val (.int x0_)] [(.int (2 : Int32)), (.int (1 : Int32))])) _
    refine XS.icmpNo X2.here hx rfl (hb hby d4_7) rfl (tlt (by decide : (1 : Int32) < (2 : Int32))).2.1 ?_
    show Steps p.tables e below (T2.setTop (mkF m 10 #[.val (.ref o0_), .val (.int (1 : Int32)), .val (.ref o1_), .val (.int (1 : Int32)), .val (.int (2 : Int32)), .val (.int (1 : Int32)), .val (.int x0_)] [])) _
    refine XS.aloadN X2.here hx rfl (hb hby d4_10) rfl rfl ?_
    show Steps p.tables e below (T2.setTop (mkF m 11 #[.val (.ref o0_), .val (.int (1 : Int32)), .val (.ref o1_), .val (.int (1 : Int32)), .val (.int (2 : Int32)), .val (.int (1 : Int32)), .val (.int x0_)] [(.ref o0_)])) _
    refine XS.iloadN X2.here hx rfl (hb hby d4_11) rfl ?_
    show Steps p.tables e below (T2.setTop (mkF m 12 #[.val (.ref o0_), .val (.int (1 : Int32)), .val (.ref o1_), .val (.int (1 : Int32)), .val (.int (2 : Int32)), .val (.int (1 : Int32)), .val (.int x0_)] [(.int (1 : Int32)), (.ref o0_)])) _
    refine X2.caload hx (j := (1 : Int32)) (v := (.int x1_)) (by rw [e2]; exact r7.1) (State.isArrayOf_alike hZ.alike r7.2.1) r7.2.2 hin7 hat7 (g := (mkF m 12 #[.val (.ref o0_), .val (.int (1 : Int32)), .val (.ref o1_), .val (.int (1 : Int32)), .val (.int (2 : Int32)), .val (.int (1 : Int32)), .val (.int x0_)] [(.int (1 : Int32)), (.ref o0_)])) rfl rfl (hb hby d4_12) _ ?_
    show Steps p.tables e below (T2.setTop (mkF m 13 #[.val (.ref o0_), .val (.int (1 : Int32)), .val (.ref o1_), .val (.int (1 : Int32)), .val (.int (2 : Int32)), .val (.int (1 : Int32)), .val (.int x0_)] [(.int x1_)])) _
    refine XS.istore X2.here hx rfl (hb hby d4_13) rfl (l' := #[.val (.ref o0_), .val (.int (1 : Int32)), .val (.ref o1_), .val (.int (1 : Int32)), .val (.int (2 : Int32)), .val (.int (1 : Int32)), .val (.int x1_)]) rfl ?_
    show Steps p.tables e below (T2.setTop (mkF m 15 #[.val (.ref o0_), .val (.int (1 : Int32)), .val (.ref o1_), .val (.int (1 : Int32)), .val (.int (2 : Int32)), .val (.int (1 : Int32)), .val (.int x1_)] [])) _
    refine XS.iload X2.here hx rfl (hb hby d4_15) rfl ?_
    show Steps p.tables e below (T2.setTop (mkF m 17 #[.val (.ref o0_), .val (.int (1 : Int32)), .val (.ref o1_), .val (.int (1 : Int32)), .val (.int (2 : Int32)), .val (.int (1 : Int32)), .val (.int x1_)] [(.int x1_)])) _
    refine XS.sipush X2.here hx rfl (hb hby d4_17) ?_
    show Steps p.tables e below (T2.setTop (mkF m 20 #[.val (.ref o0_), .val (.int (1 : Int32)), .val (.ref o1_), .val (.int (1 : Int32)), .val (.int (2 : Int32)), .val (.int (1 : Int32)), .val (.int x1_)] [(.int (255 : Int32)), (.int x1_)])) _
    refine XS.icmpYes X2.here hx rfl (pc0 := 20) (pc' := 26) rfl (hb hby d4_20) rfl (flt ha1).2.2.2 (by decide) (by decide) ?_
    show Steps p.tables e below (T2.setTop (mkF m 26 #[.val (.ref o0_), .val (.int (1 : Int32)), .val (.ref o1_), .val (.int (1 : Int32)), .val (.int (2 : Int32)), .val (.int (1 : Int32)), .val (.int x1_)] [])) _
    refine XS.aloadN X2.here hx rfl (hb hby d4_26) rfl rfl ?_
    show Steps p.tables e below (T2.setTop (mkF m 27 #[.val (.ref o0_), .val (.int (1 : Int32)), .val (.ref o1_), .val (.int (1 : Int32)), .val (.int (2 : Int32)), .val (.int (1 : Int32)), .val (.int x1_)] [(.ref o1_)])) _
    refine XS.iloadN X2.here hx rfl (hb hby d4_27) rfl ?_
    show Steps p.tables e below (T2.setTop (mkF m 28 #[.val (.ref o0_), .val (.int (1 : Int32)), .val (.ref o1_), .val (.int (1 : Int32)), .val (.int (2 : Int32)), .val (.int (1 : Int32)), .val (.int x1_)] [(.int (1 : Int32)), (.ref o1_)])) _
    refine XS.iload X2.here hx rfl (hb hby d4_28) rfl ?_
    show Steps p.tables e below (T2.setTop (mkF m 30 #[.val (.ref o0_), .val (.int (1 : Int32)), .val (.ref o1_), .val (.int (1 : Int32)), .val (.int (2 : Int32)), .val (.int (1 : Int32)), .val (.int x1_)] [(.int x1_), (.int (1 : Int32)), (.ref o1_)])) _
    refine XS.i2b X2.here hx rfl (hb hby d4_30) rfl ?_
    show Steps p.tables e below (T2.setTop (mkF m 31 #[.val (.ref o0_), .val (.int (1 : Int32)), .val (.ref o1_), .val (.int (1 : Int32)), .val (.int (2 : Int32)), .val (.int (1 : Int32)), .val (.int x1_)] [(.int (x1_.toInt8.toInt32)), (.int (1 : Int32)), (.ref o1_)])) _
    refine st8 _ ?_
    show Steps p.tables e below (T8.setTop (mkF m 32 #[.val (.ref o0_), .val (.int (1 : Int32)), .val (.ref o1_), .val (.int (1 : Int32)), .val (.int (2 : Int32)), .val (.int (1 : Int32)), .val (.int x1_)] [])) _
    refine XS.iinc X8.here hx rfl (hb hby d4_32) rfl (l' := #[.val (.ref o0_), .val (.int (2 : Int32)), .val (.ref o1_), .val (.int (1 : Int32)), .val (.int (2 : Int32)), .val (.int (1 : Int32)), .val (.int x1_)]) rfl ?_
    show Steps p.tables e below (T8.setTop (mkF m 35 #[.val (.ref o0_), .val (.int (2 : Int32)), .val (.ref o1_), .val (.int (1 : Int32)), .val (.int (2 : Int32)), .val (.int (1 : Int32)), .val (.int x1_)] [])) _
    refine XS.iinc X8.here hx rfl (hb hby d4_35) rfl (l' := #[.val (.ref o0_), .val (.int (2 : Int32)), .val (.ref o1_), .val (.int (2 : Int32)), .val (.int (2 : Int32)), .val (.int (1 : Int32)), .val (.int x1_)]) rfl ?_
    show Steps p.tables e below (T8.setTop (mkF m 38 #[.val (.ref o0_), .val (.int (2 : Int32)), .val (.ref o1_), .val (.int (2 : Int32)), .val (.int (2 : Int32)), .val (.int (1 : Int32)), .val (.int x1_)] [])) _
    refine XS.iinc X8.here hx rfl (hb hby d4_38) rfl (l' := #[.val (.ref o0_), .val (.int (2 : Int32)), .val (.ref o1_), .val (.int (2 : Int32)), .val (.int (2 : Int32)), .val (.int (2 : Int32)), .val (.int x1_)]) rfl ?_
    show Steps p.tables e below (T8.setTop (mkF m 41 #[.val (.ref o0_), .val (.int (2 : Int32)), .val (.ref o1_), .val (.int (2 : Int32)), .val (.int (2 : Int32)), .val (.int (2 : Int32)), .val (.int x1_)] [])) _
    refine XS.goto X8.here hx rfl (pc0 := 41) (pc' := 3) rfl (hb hby d4_41) (by decide) (by decide) ?_
    show Steps p.tables e below (T8.setTop (mkF m 3 #[.val (.ref o0_), .val (.int (2 : Int32)), .val (.ref o1_), .val (.int (2 : Int32)), .val (.int (2 : Int32)), .val (.int (2 : Int32)), .val (.int x1_)] [])) _
    refine XS.iload X8.here hx rfl (hb hby d4_3) rfl ?_
    show Steps p.tables e below (T8.setTop (mkF m 5 #[.val (.ref o0_), .val (.int (2 : Int32)), .val (.ref o1_), .val (.int (2 : Int32)), .val (.int (2 : Int32)), .val (.int (2 : Int32)), .val (.int x1_)] [(.int (2 : Int32))])) _
    refine XS.iload X8.here hx rfl (hb hby d4_5) rfl ?_
    show Steps p.tables e below (T8.setTop (mkF m 7 #[.val (.ref o0_), .val (.int (2 : Int32)), .val (.ref o1_), .val (.int (2 : Int32)), .val (.int (2 : Int32)), .val (.int (2 : Int32)), .val (.int x1_)] [(.int (2 : Int32)), (.int (2 : Int32))])) _
    refine XS.icmpYes X8.here hx rfl (pc0 := 7) (pc' := 44) rfl (hb hby d4_7) rfl (flt (by decide : ¬ ((2 : Int32) < (2 : Int32)))).2.1 (by decide) (by decide) ?_
    show Steps p.tables e below (T8.setTop (mkF m 44 #[.val (.ref o0_), .val (.int (2 : Int32)), .val (.ref o1_), .val (.int (2 : Int32)), .val (.int (2 : Int32)), .val (.int (2 : Int32)), .val (.int x1_)] [])) _
    refine XS.iload X8.here hx rfl (hb hby d4_44) rfl ?_
    exact kt
  have f14 : Keep h0 h2 [o1_] := K0.wr W2 (Or.inl (List.mem_of_getElem? (i := 0) rfl))
  have f15 : Keep h0 h8 [o1_] := f14.wr W8 (Or.inl (List.mem_of_getElem? (i := 0) rfl))
  have f16 : Exa Z h2 o1_ "[B" := P5.wr W2
  have f17 : Exa Z h8 o1_ "[B" := f16.wr W8
  obtain ⟨fs, hr, hrun, hended, hW, hsame⟩ := X8.leave (v := some (.int (2 : Int32))) (fun h => by rw [Bd.returns] at h; cases h)
  refine ⟨_, _, pre12 _ (retOut X8 hx Bd.returns rfl (Or.inl ⟨rfl, Or.inl rfl, _, rfl⟩) (hb hby d4_46) hr), hrun, hended, _, _, rfl, ?_, ⟨_, rfl⟩, hW, hsame.mono (by decide) (by decide)⟩
  show Qcompress5 Z o0_ o1_ ko0_ x0_ x1_ ko1_ h0 n0 _ T8.heap _
  rw [e8]
  exact ⟨rfl, N9, f15, f11, f17⟩
theorem pd_0 : parseMethodDescriptor "([CI[BII)I" = some ⟨[(.array .char), .int, (.array .byte), .int, .int], some .int⟩ := by decide +kernel
theorem d3_12 : decode jdk_52_method_16_code 12 = .ok (.istore 4, 2) := by decide +kernel
theorem d3_14 : decode jdk_52_method_16_code 14 = .ok (.iload 4, 2) := by decide +kernel
theorem d3_16 : decode jdk_52_method_16_code 16 = .ok (.iload_n 2, 1) := by decide +kernel
theorem d3_17 : decode jdk_52_method_16_code 17 = .ok (.if_icmp .eq 40, 3) := by decide +kernel
theorem d3_57 : decode jdk_52_method_16_code 57 = .ok (.aload_n 3, 1) := by decide +kernel
theorem d3_58 : decode jdk_52_method_16_code 58 = .ok (.areturn, 1) := by decide +kernel
theorem efcompress4 (m : MethodId) (o0_ : Addr) : entryFrame m #[(.ref o0_), (.int (0 : Int32)), (.int (2 : Int32))] 6 = mkF m 0 #[.val (.ref o0_), .val (.int (0 : Int32)), .val (.int (2 : Int32)), .unset, .unset, .unset] [] := by first | (simp [entryFrame, mkF, argsToLocals, Value.category]; done) | rfl
def Qcompress4 (Z : State) (o0_ : Addr) (ko0_ : ClassId) (x0_ : Int32) (x1_ : Int32) (h0 : Heap) (n0 : Nat) (v : Option Value) (h : Heap) (L : List Loc) : Prop := ∃ k1 : ClassId, ∃ nb1 : Addr, v = some (.ref nb1) ∧ Fr n0 L ∧ Keep h0 h [] ∧ h0.size ≤ nb1 ∧ Arv Z h nb1 k1 .byte (2 : Int32) [(.int (x0_.toInt8.toInt32)), (.int (x1_.toInt8.toInt32))] (.int (0 : Int32)) ∧ Exa Z h nb1 "[B"
set_option maxRecDepth 65536 in
set_option maxHeartbeats 40000000 in
theorem rmcompress4 (l : Launch) (Z : State) (a0 : Array Value) (hw : ∀ d ∈ tables_1, d.before a0 Z = true) (ws : List Jvm.Cond) (o0_ : Addr) (ko0_ : ClassId) (x0_ : Int32) (x1_ : Int32) (h0 : Heap) (n0 : Nat) (O0 : Old Z n0 h0) (ha0 : ¬ ((255 : Int32) < x0_)) (ha1 : ¬ ((255 : Int32) < x1_)) (P2 : Arv Z h0 o0_ ko0_ .char (2 : Int32) [(.int x0_), (.int x1_)] (.int (0 : Int32))) (P3 : Exa Z h0 o0_ "[C") :
    MetFree l (⟨"java/lang/StringUTF16", "compress", "([CII)[B"⟩ : MethodName) (head1 (Jvm.Cond.code (⟨"java/lang/StringUTF16", "compress", "([CII)[B"⟩ : MethodName) jdk_52_method_16_code 6 (some (.array .byte)) :: ws) ({ frames := 1, cells := 1, slots := 2, locals := 18 } : Room)) (fun a U => a = #[(.ref o0_), (.int (0 : Int32)), (.int (2 : Int32))] ∧ Z.Warmed39 U.vm ∧ U.heap = h0) (fun _ _ _ _ _ => True) (fun _ U o U' => ∃ v L, o = .returned v ∧ Qcompress4 Z o0_ ko0_ x0_ x1_ h0 n0 v U'.heap L ∧ FrameEnd U o U' L ({ frames := 1, cells := 1, slots := 2, locals := 18 } : Room).cells ({ frames := 1, cells := 1, slots := 2, locals := 18 } : Room).slots) := by
  refine MetFree.of_bodySF (plainFor_of_name pn_0) hisR ?_
  intro p e s m args below meth c s₁ Bd hml0 hP hK
  obtain ⟨rfl, hZ, hh⟩ := hP
  have hx := Bd.exec
  have hby := Bd.bytes
  have hml : c.maxLocals = 6 := hml0
  have hown : s.vm.findClass "java/lang/StringUTF16" = some m.cls := findClass_of_methodNamed Bd.named
  have hnm := (name_of_methodNamed Bd.named Bd.method).1
  have X0 : Stand p l e ({ frames := 1, cells := 1, slots := 2, locals := 18 } : Room) s m #[(.ref o0_), (.int (0 : Int32)), (.int (2 : Int32))] below meth c s₁ [] 0 0 := Stand.of_body Bd
  have e0 : s₁.heap = h0 := by rw [← hh, Bd.state]; rfl
  have N0 := Fr.nil n0
  have pre0 : ∀ t, Steps p.tables e below (s₁.setTop (mkF m 0 #[.val (.ref o0_), .val (.int (0 : Int32)), .val (.int (2 : Int32)), .unset, .unset, .unset] [])) t → Steps p.tables e below (s₁.setTop (entryFrame m #[(.ref o0_), (.int (0 : Int32)), (.int (2 : Int32))] 6)) t := fun t k => castTop (efcompress4 m o0_) k
  have K0 : Keep h0 h0 [] := Keep.refl _ _
  obtain ⟨T1, h1, k1, X1, e1, E1, A1, Z1, st1⟩ := newPE X0 hx hZ (hw _ (List.mem_of_getElem? (i := 19) rfl)) e0 (g := (mkF m 1 #[.val (.ref o0_), .val (.int (0 : Int32)), .val (.int (2 : Int32)), .unset, .unset, .unset] [(.int (2 : Int32))])) rfl (hb hby d3_1) rfl (by decide) (cap := 2) (by decide) (by decide) (by decide) (by decide) (ad := "[B") (by decide)
  obtain ⟨b1, g1⟩ : ∃ z, z = h0.size := ⟨_, rfl⟩
  rw [← g1] at A1 Z1 st1
  have ge2 : n0 ≤ b1 := Nat.le_trans (Nat.le_trans (Nat.le_of_eq O0.1.symm) O0.2.1) (Nat.le_of_eq g1.symm)
  have sz3 : h0.size ≤ b1 := Nat.le_trans K0.1 (Nat.le_of_eq g1.symm)
  have f4 : Arv Z h1 b1 k1 .byte (2 : Int32) [(.int (0 : Int32)), (.int (0 : Int32))] (.int (0 : Int32)) := (Arv.new A1 (by decide)).pad (pad_rep [] (.int (0 : Int32)) 2)
  have f6 : Arv Z h1 o0_ ko0_ .char (2 : Int32) [(.int x0_), (.int x1_)] (.int (0 : Int32)) := P2.ext E1
  have f7 : Exa Z h1 o0_ "[C" := P3.ext E1
  have ne8 : o0_ ≠ b1 := Nat.ne_of_lt (Nat.lt_of_lt_of_le P2.lt (Nat.le_of_eq g1.symm))
  have f9 : Old Z n0 h1 := O0.ext E1
  obtain ⟨_, _, ⟨T5, L5, k5, n5⟩, -, X5, ⟨Lc5, hQ5, l5, y5, z5⟩, st5⟩ := Jvm.LawKit.callS X1 hx (y := (⟨"java/lang/StringUTF16", "compress", "([CI[BII)I"⟩ : MethodName)) hown (mvT hZ (hw _ (List.mem_of_getElem? (i := 20) rfl))) (mvT hZ (hw _ (List.mem_of_getElem? (i := 21) rfl))) (mvT hZ (hw _ (List.mem_of_getElem? (i := 17) rfl))) (mvT hZ (hw _ (List.mem_of_getElem? (i := 22) rfl))) (by decide) (backOf (W := 0) (rmcompress5 l Z a0 hw [] o0_ b1 ko0_ x0_ x1_ k1 h1 n0 f9 ha0 ha1 f6 f7 f4 Z1 ge2 ne8) hZ (hw _ (List.mem_of_getElem? (i := 22) rfl)) (hw _ (List.mem_of_getElem? (i := 17) rfl)) (by decide) (by decide)) (g := (mkF m 9 #[.val (.ref o0_), .val (.int (0 : Int32)), .val (.int (2 : Int32)), .val (.ref b1), .unset, .unset] [(.int (2 : Int32)), (.int (0 : Int32)), (.ref b1), (.int (0 : Int32)), (.ref o0_)])) rfl (by rw [hml]; rfl) (argsL := [(.ref o0_), (.int (0 : Int32)), (.ref b1), (.int (0 : Int32)), (.int (2 : Int32))]) (rest := []) (lenOf pd_0 rfl) rfl (by show 2 * 0 + _ ≤ _; exact Nat.le_of_eq rfl) (hb hby d3_9) (fun _ _ => ⟨rfl, e1, (by decide : 1 + 0 ≤ _), (by decide : 2 + 0 ≤ _)⟩)
  dsimp only [Pt.U, Pt.locs, Pt.cells, Pt.slots] at X5 l5 y5 z5 st5 hQ5
  subst l5 y5 z5
  obtain ⟨h5, e5⟩ : ∃ z, T5.heap = z := ⟨_, rfl⟩
  rw [e5] at hQ5
  obtain ⟨rfl, N5q, K5, g5_0, g5_1⟩ := hQ5
  have N10 := Fr.app N0 N5q
  have pre11 : ∀ t, Steps p.tables e below (T5.setTop (mkF m 58 #[.val (.ref o0_), .val (.int (0 : Int32)), .val (.int (2 : Int32)), .val (.ref b1), .val (.int (2 : Int32)), .unset] [(.ref b1)])) t → Steps p.tables e below (s₁.setTop (entryFrame m #[(.ref o0_), (.int (0 : Int32)), (.int (2 : Int32))] 6)) t := by
    intro t kt
    refine pre0 t ?_
    show Steps p.tables e below (s₁.setTop (mkF m 0 #[.val (.ref o0_), .val (.int (0 : Int32)), .val (.int (2 : Int32)), .unset, .unset, .unset] [])) _
    refine XS.iloadN X0.here hx rfl (hb hby d3_0) rfl ?_
    show Steps p.tables e below (s₁.setTop (mkF m 1 #[.val (.ref o0_), .val (.int (0 : Int32)), .val (.int (2 : Int32)), .unset, .unset, .unset] [(.int (2 : Int32))])) _
    refine st1 _ ?_
    show Steps p.tables e below (T1.setTop (mkF m 3 #[.val (.ref o0_), .val (.int (0 : Int32)), .val (.int (2 : Int32)), .unset, .unset, .unset] [(.ref b1)])) _
    refine XS.astoreN X1.here hx rfl (hb hby d3_3) rfl rfl (l' := #[.val (.ref o0_), .val (.int (0 : Int32)), .val (.int (2 : Int32)), .val (.ref b1), .unset, .unset]) rfl ?_
    show Steps p.tables e below (T1.setTop (mkF m 4 #[.val (.ref o0_), .val (.int (0 : Int32)), .val (.int (2 : Int32)), .val (.ref b1), .unset, .unset] [])) _
    refine XS.aloadN X1.here hx rfl (hb hby d3_4) rfl rfl ?_
    show Steps p.tables e below (T1.setTop (mkF m 5 #[.val (.ref o0_), .val (.int (0 : Int32)), .val (.int (2 : Int32)), .val (.ref b1), .unset, .unset] [(.ref o0_)])) _
    refine XS.iloadN X1.here hx rfl (hb hby d3_5) rfl ?_
    show Steps p.tables e below (T1.setTop (mkF m 6 #[.val (.ref o0_), .val (.int (0 : Int32)), .val (.int (2 : Int32)), .val (.ref b1), .unset, .unset] [(.int (0 : Int32)), (.ref o0_)])) _
    refine XS.aloadN X1.here hx rfl (hb hby d3_6) rfl rfl ?_
    show Steps p.tables e below (T1.setTop (mkF m 7 #[.val (.ref o0_), .val (.int (0 : Int32)), .val (.int (2 : Int32)), .val (.ref b1), .unset, .unset] [(.ref b1), (.int (0 : Int32)), (.ref o0_)])) _
    refine XS.iconst X1.here hx rfl (hb hby d3_7) ?_
    show Steps p.tables e below (T1.setTop (mkF m 8 #[.val (.ref o0_), .val (.int (0 : Int32)), .val (.int (2 : Int32)), .val (.ref b1), .unset, .unset] [(.int (0 : Int32)), (.ref b1), (.int (0 : Int32)), (.ref o0_)])) _
    refine XS.iloadN X1.here hx rfl (hb hby d3_8) rfl ?_
    show Steps p.tables e below (T1.setTop (mkF m 9 #[.val (.ref o0_), .val (.int (0 : Int32)), .val (.int (2 : Int32)), .val (.ref b1), .unset, .unset] [(.int (2 : Int32)), (.int (0 : Int32)), (.ref b1), (.int (0 : Int32)), (.ref o0_)])) _
    refine st5 _ ?_
    show Steps p.tables e below (T5.setTop (mkF m 12 #[.val (.ref o0_), .val (.int (0 : Int32)), .val (.int (2 : Int32)), .val (.ref b1), .unset, .unset] [(.int (2 : Int32))])) _
    refine XS.istore X5.here hx rfl (hb hby d3_12) rfl (l' := #[.val (.ref o0_), .val (.int (0 : Int32)), .val (.int (2 : Int32)), .val (.ref b1), .val (.int (2 : Int32)), .unset]) rfl ?_
    show Steps p.tables e below (T5.setTop (mkF m 14 #[.val (.ref o0_), .val (.int (0 : Int32)), .val (.int (2 : Int32)), .val (.ref b1), .val (.int (2 : Int32)), .unset] [])) _
    refine XS.iload X5.here hx rfl (hb hby d3_14) rfl ?_
    show Steps p.tables e below (T5.setTop (mkF m 16 #[.val (.ref o0_), .val (.int (0 : Int32)), .val (.int (2 : Int32)), .val (.ref b1), .val (.int (2 : Int32)), .unset] [(.int (2 : Int32))])) _
    refine XS.iloadN X5.here hx rfl (hb hby d3_16) rfl ?_
    show Steps p.tables e below (T5.setTop (mkF m 17 #[.val (.ref o0_), .val (.int (0 : Int32)), .val (.int (2 : Int32)), .val (.ref b1), .val (.int (2 : Int32)), .unset] [(.int (2 : Int32)), (.int (2 : Int32))])) _
    refine XS.icmpYes X5.here hx rfl (pc0 := 17) (pc' := 57) rfl (hb hby d3_17) rfl (teq (by decide : (2 : Int32) = (2 : Int32))).1 (by decide) (by decide) ?_
    show Steps p.tables e below (T5.setTop (mkF m 57 #[.val (.ref o0_), .val (.int (0 : Int32)), .val (.int (2 : Int32)), .val (.ref b1), .val (.int (2 : Int32)), .unset] [])) _
    refine XS.aloadN X5.here hx rfl (hb hby d3_57) rfl rfl ?_
    exact kt
  have f13 : Keep h0 h1 [] := K0.ext E1
  have f14 : Keep h0 h5 [] := f13.trans K5 (allS (Or.inr sz3) all0)
  obtain ⟨fs, hr, hrun, hended, hW, hsame⟩ := X5.leave (v := some (.ref b1)) (fun h => by rw [Bd.returns] at h; cases h)
  refine ⟨_, _, pre11 _ (retOut X5 hx Bd.returns rfl (Or.inr (Or.inr (Or.inr (Or.inr ⟨rfl, rfl, rfl⟩)))) (hb hby d3_58) hr), hrun, hended, _, _, rfl, ?_, ⟨_, rfl⟩, hW, hsame.mono (by decide) (by decide)⟩
  show Qcompress4 Z o0_ ko0_ x0_ x1_ h0 n0 _ T5.heap _
  rw [e5]
  exact ⟨k1, b1, rfl, N10, f14, sz3, g5_0, g5_1⟩
theorem pd_1 : parseMethodDescriptor "([CII)[B" = some ⟨[(.array .char), .int, .int], some (.array .byte)⟩ := by decide +kernel
theorem d2_39 : decode jdk_42_method_149_code 39 = .ok (.astore 5, 2) := by decide +kernel
theorem d2_41 : decode jdk_42_method_149_code 41 = .ok (.aload_n 0, 1) := by decide +kernel
theorem d2_42 : decode jdk_42_method_149_code 42 = .ok (.aload 5, 2) := by decide +kernel
theorem d2_44 : decode jdk_42_method_149_code 44 = .ok (.iload_n 3, 1) := by decide +kernel
theorem d2_45 : decode jdk_42_method_149_code 45 = .ok (.invokestatic 47, 3) := by decide +kernel
theorem d5_0 : decode jdk_52_method_15_code 0 = .ok (.iload_n 1, 1) := by decide +kernel
theorem d5_1 : decode jdk_52_method_15_code 1 = .ok (.aload_n 0, 1) := by decide +kernel
theorem d5_2 : decode jdk_52_method_15_code 2 = .ok (.arraylength, 1) := by decide +kernel
theorem d5_3 : decode jdk_52_method_15_code 3 = .ok (.isub, 1) := by decide +kernel
theorem d5_4 : decode jdk_52_method_15_code 4 = .ok (.bipush 31, 2) := by decide +kernel
theorem d5_6 : decode jdk_52_method_15_code 6 = .ok (.iushr, 1) := by decide +kernel
theorem d5_7 : decode jdk_52_method_15_code 7 = .ok (.i2b, 1) := by decide +kernel
theorem d5_8 : decode jdk_52_method_15_code 8 = .ok (.ireturn, 1) := by decide +kernel
theorem efcoderFromArrayLen6 (m : MethodId) (o0_ : Addr) : entryFrame m #[(.ref o0_), (.int (2 : Int32))] 2 = mkF m 0 #[.val (.ref o0_), .val (.int (2 : Int32))] [] := by first | (simp [entryFrame, mkF, argsToLocals, Value.category]; done) | rfl
def QcoderFromArrayLen6 (Z : State) (o0_ : Addr) (ko0_ : ClassId) (x0_ : Int32) (x1_ : Int32) (h0 : Heap) (n0 : Nat) (v : Option Value) (h : Heap) (L : List Loc) : Prop := v = some (.int (0 : Int32)) ∧ Fr n0 L ∧ h = h0
set_option maxRecDepth 65536 in
set_option maxHeartbeats 40000000 in
theorem rmcoderFromArrayLen6 (l : Launch) (Z : State) (a0 : Array Value) (hw : ∀ d ∈ tables_1, d.before a0 Z = true) (ws : List Jvm.Cond) (o0_ : Addr) (ko0_ : ClassId) (x0_ : Int32) (x1_ : Int32) (h0 : Heap) (n0 : Nat) (O0 : Old Z n0 h0) (P0 : Arv Z h0 o0_ ko0_ .byte (2 : Int32) [(.int x0_), (.int x1_)] (.int (0 : Int32))) (P1 : Exa Z h0 o0_ "[B") :
    MetFree l (⟨"java/lang/StringUTF16", "coderFromArrayLen", "([BI)B"⟩ : MethodName) (head1 (Jvm.Cond.code (⟨"java/lang/StringUTF16", "coderFromArrayLen", "([BI)B"⟩ : MethodName) jdk_52_method_15_code 2 (some .byte) :: ws) ({ frames := 0, cells := 0, slots := 0, locals := 0 } : Room)) (fun a U => a = #[(.ref o0_), (.int (2 : Int32))] ∧ Z.Warmed39 U.vm ∧ U.heap = h0) (fun _ _ _ _ _ => True) (fun _ U o U' => ∃ v L, o = .returned v ∧ QcoderFromArrayLen6 Z o0_ ko0_ x0_ x1_ h0 n0 v U'.heap L ∧ FrameEnd U o U' L ({ frames := 0, cells := 0, slots := 0, locals := 0 } : Room).cells ({ frames := 0, cells := 0, slots := 0, locals := 0 } : Room).slots) := by
  refine MetFree.of_bodySF (plainFor_of_name pn_0) hisR ?_
  intro p e s m args below meth c s₁ Bd hml0 hP hK
  obtain ⟨rfl, hZ, hh⟩ := hP
  have hx := Bd.exec
  have hby := Bd.bytes
  have hml : c.maxLocals = 2 := hml0
  have hown : s.vm.findClass "java/lang/StringUTF16" = some m.cls := findClass_of_methodNamed Bd.named
  have hnm := (name_of_methodNamed Bd.named Bd.method).1
  have X0 : Stand p l e ({ frames := 0, cells := 0, slots := 0, locals := 0 } : Room) s m #[(.ref o0_), (.int (2 : Int32))] below meth c s₁ [] 0 0 := Stand.of_body Bd
  have e0 : s₁.heap = h0 := by rw [← hh, Bd.state]; rfl
  have N0 := Fr.nil n0
  have pre0 : ∀ t, Steps p.tables e below (s₁.setTop (mkF m 0 #[.val (.ref o0_), .val (.int (2 : Int32))] [])) t → Steps p.tables e below (s₁.setTop (entryFrame m #[(.ref o0_), (.int (2 : Int32))] 2)) t := fun t k => castTop (efcoderFromArrayLen6 m o0_) k
  have K0 : Keep h0 h0 [] := Keep.refl _ _
  obtain ⟨c1, r1, q1, s1, z1, y1, G1⟩ := id P0
  have pre2 : ∀ t, Steps p.tables e below (s₁.setTop (mkF m 8 #[.val (.ref o0_), .val (.int (2 : Int32))] [(.int (0 : Int32))])) t → Steps p.tables e below (s₁.setTop (entryFrame m #[(.ref o0_), (.int (2 : Int32))] 2)) t := by
    intro t kt
    refine pre0 t ?_
    show Steps p.tables e below (s₁.setTop (mkF m 0 #[.val (.ref o0_), .val (.int (2 : Int32))] [])) _
    refine XS.iloadN X0.here hx rfl (hb hby d5_0) rfl ?_
    show Steps p.tables e below (s₁.setTop (mkF m 1 #[.val (.ref o0_), .val (.int (2 : Int32))] [(.int (2 : Int32))])) _
    refine XS.aloadN X0.here hx rfl (hb hby d5_1) rfl rfl ?_
    show Steps p.tables e below (s₁.setTop (mkF m 2 #[.val (.ref o0_), .val (.int (2 : Int32))] [(.ref o0_), (.int (2 : Int32))])) _
    refine X0.arraylength hx (by rw [e0]; exact r1.1) (State.isArrayOf_alike hZ.alike r1.2.1) (g := (mkF m 2 #[.val (.ref o0_), .val (.int (2 : Int32))] [(.ref o0_), (.int (2 : Int32))])) rfl rfl (hb hby d5_2) _ ?_
    rw [len_of s1 z1]
    show Steps p.tables e below (s₁.setTop (mkF m 3 #[.val (.ref o0_), .val (.int (2 : Int32))] [(.int (2 : Int32)), (.int (2 : Int32))])) _
    refine XS.isub X0.here hx rfl (hb hby d5_3) rfl ?_
    show Steps p.tables e below (s₁.setTop (mkF m 4 #[.val (.ref o0_), .val (.int (2 : Int32))] [(.int (0 : Int32))])) _
    refine XS.bipush X0.here hx rfl (hb hby d5_4) ?_
    show Steps p.tables e below (s₁.setTop (mkF m 6 #[.val (.ref o0_), .val (.int (2 : Int32))] [(.int (31 : Int32)), (.int (0 : Int32))])) _
    refine XS.iushr X0.here hx rfl (hb hby d5_6) rfl ?_
    show Steps p.tables e below (s₁.setTop (mkF m 7 #[.val (.ref o0_), .val (.int (2 : Int32))] [(.int (0 : Int32))])) _
    refine XS.i2b X0.here hx rfl (hb hby d5_7) rfl ?_
    exact kt
  obtain ⟨fs, hr, hrun, hended, hW, hsame⟩ := X0.leave (v := some (.int (0 : Int32))) (fun h => by rw [Bd.returns] at h; cases h)
  refine ⟨_, _, pre2 _ (retN X0 hx (t := .byte) Bd.returns (by simp) (hb hby d5_8) hr), hrun, hended, _, _, rfl, ?_, ⟨_, rfl⟩, hW, hsame.mono (by decide) (by decide)⟩
  show QcoderFromArrayLen6 Z o0_ ko0_ x0_ x1_ h0 n0 _ s₁.heap _
  rw [e0]
  exact ⟨rfl, N0, rfl⟩
theorem pd_2 : parseMethodDescriptor "([BI)B" = some ⟨[(.array .byte), .int], some .byte⟩ := by decide +kernel
theorem d2_48 : decode jdk_42_method_149_code 48 = .ok (.putfield 15, 3) := by decide +kernel
theorem d2_51 : decode jdk_42_method_149_code 51 = .ok (.aload_n 0, 1) := by decide +kernel
theorem d2_52 : decode jdk_42_method_149_code 52 = .ok (.aload 5, 2) := by decide +kernel
theorem d2_54 : decode jdk_42_method_149_code 54 = .ok (.putfield 9, 3) := by decide +kernel
theorem d2_57 : decode jdk_42_method_149_code 57 = .ok (.return_, 1) := by decide +kernel
theorem pn_1 : plainName "java/lang/String" = true := by first | (simp [plainName, overriddenIn]; done) | decide +kernel
theorem efinit3 (m : MethodId) (o0_ : Addr) (o1_ : Addr) : entryFrame m #[(.ref o0_), (.ref o1_), (.int (0 : Int32)), (.int (2 : Int32)), .null] 6 = mkF m 0 #[.val (.ref o0_), .val (.ref o1_), .val (.int (0 : Int32)), .val (.int (2 : Int32)), .val .null, .unset] [] := by first | (simp [entryFrame, mkF, argsToLocals, Value.category]; done) | rfl
def Qinit3 (Z : State) (o0_ : Addr) (o1_ : Addr) (ko1_ : ClassId) (x0_ : Int32) (x1_ : Int32) (x2_ : Int32) (h0 : Heap) (n0 : Nat) (v : Option Value) (h : Heap) (L : List Loc) : Prop := ∃ k1_3 : ClassId, ∃ nnb1_3 : Addr, v = none ∧ Fr n0 L ∧ Keep h0 h [o0_] ∧ h0.size ≤ nnb1_3 ∧ Exa Z h o0_ "java/lang/String" ∧ Fld Z h o0_ "java/lang/String" "coder" "B" (.int (0 : Int32)) ∧ Fld Z h o0_ "java/lang/String" "value" "[B" (.ref nnb1_3) ∧ Arv Z h nnb1_3 k1_3 .byte (2 : Int32) [(.int (x0_.toInt8.toInt32)), (.int (x1_.toInt8.toInt32))] (.int (0 : Int32)) ∧ Exa Z h nnb1_3 "[B"
set_option maxRecDepth 65536 in
set_option maxHeartbeats 40000000 in
theorem rminit3 (l : Launch) (Z : State) (a0 : Array Value) (hw : ∀ d ∈ tables_1, d.before a0 Z = true) (ws : List Jvm.Cond) (o0_ : Addr) (o1_ : Addr) (ko1_ : ClassId) (x0_ : Int32) (x1_ : Int32) (x2_ : Int32) (h0 : Heap) (n0 : Nat) (O0 : Old Z n0 h0) (ha0 : ¬ ((255 : Int32) < x0_)) (ha1 : ¬ ((255 : Int32) < x1_)) (P2 : Exa Z h0 o0_ "java/lang/String") (P3 : Fld Z h0 o0_ "java/lang/String" "coder" "B" (.int (0 : Int32))) (P4 : Fld Z h0 o0_ "java/lang/String" "value" "[B" .null) (P5 : Arv Z h0 o1_ ko1_ .char (2 : Int32) [(.int x0_), (.int x1_)] (.int (0 : Int32))) (P6 : Exa Z h0 o1_ "[C") (P7 : ¬ (x2_ = (0 : Int32))) (P8 : Sta Z Z.heap "java/lang/String" "COMPACT_STRINGS" "Z" (.int x2_)) (P9 : n0 ≤ o0_) :
    MetFree l (⟨"java/lang/String", "<init>", "([CIILjava/lang/Void;)V"⟩ : MethodName) (head1 (Jvm.Cond.code (⟨"java/lang/String", "<init>", "([CIILjava/lang/Void;)V"⟩ : MethodName) jdk_42_method_149_code 6 none :: ws) ({ frames := 2, cells := 1, slots := 2, locals := 35 } : Room)) (fun a U => a = #[(.ref o0_), (.ref o1_), (.int (0 : Int32)), (.int (2 : Int32)), .null] ∧ Z.Warmed39 U.vm ∧ U.heap = h0) (fun _ _ _ _ _ => True) (fun _ U o U' => ∃ v L, o = .returned v ∧ Qinit3 Z o0_ o1_ ko1_ x0_ x1_ x2_ h0 n0 v U'.heap L ∧ FrameEnd U o U' L ({ frames := 2, cells := 1, slots := 2, locals := 35 } : Room).cells ({ frames := 2, cells := 1, slots := 2, locals := 35 } : Room).slots) := by
  refine MetFree.of_bodySF (plainFor_of_name pn_1) hisR ?_
  intro p e s m args below meth c s₁ Bd hml0 hP hK
  obtain ⟨rfl, hZ, hh⟩ := hP
  have hx := Bd.exec
  have hby := Bd.bytes
  have hml : c.maxLocals = 6 := hml0
  have hown : s.vm.findClass "java/lang/String" = some m.cls := findClass_of_methodNamed Bd.named
  have hnm := (name_of_methodNamed Bd.named Bd.method).1
  have X0 : Stand p l e ({ frames := 2, cells := 1, slots := 2, locals := 35 } : Room) s m #[(.ref o0_), (.ref o1_), (.int (0 : Int32)), (.int (2 : Int32)), .null] below meth c s₁ [] 0 0 := Stand.of_body Bd
  have e0 : s₁.heap = h0 := by rw [← hh, Bd.state]; rfl
  have N0 := Fr.nil n0
  have pre0 : ∀ t, Steps p.tables e below (s₁.setTop (mkF m 0 #[.val (.ref o0_), .val (.ref o1_), .val (.int (0 : Int32)), .val (.int (2 : Int32)), .val .null, .unset] [])) t → Steps p.tables e below (s₁.setTop (entryFrame m #[(.ref o0_), (.ref o1_), (.int (0 : Int32)), (.int (2 : Int32)), .null] 6)) t := fun t k => castTop (efinit3 m o0_ o1_) k
  have K0 : Keep h0 h0 [o0_] := Keep.refl _ _
  obtain ⟨T1, X1, e1, st1⟩ := initO X0 hx hZ hown (hw _ (List.mem_of_getElem? (i := 11) rfl)) (hw _ (List.mem_of_getElem? (i := 12) rfl)) (hw _ (List.mem_of_getElem? (i := 13) rfl)) e0 (g := (mkF m 1 #[.val (.ref o0_), .val (.ref o1_), .val (.int (0 : Int32)), .val (.int (2 : Int32)), .val .null, .unset] [(.ref o0_)])) rfl (by rw [hml]; rfl) rfl (hb hby d2_1) (by decide) (W := 0) (by show 2 * 0 + _ ≤ _; exact Nat.le_of_eq rfl) (by decide)
  obtain ⟨T2, X2, e2, st2⟩ := getS2 X1 hx hZ hown (host := "") (Or.inl (hw _ (List.mem_of_getElem? (i := 14) rfl))) Via.refl e1 (P8.ext O0.2) (g := (mkF m 27 #[.val (.ref o0_), .val (.ref o1_), .val (.int (0 : Int32)), .val (.int (2 : Int32)), .val .null, .unset] [])) rfl (hb hby d2_27)
  obtain ⟨_, _, ⟨T3, L3, k3, n3⟩, -, X3, ⟨Lc3, hQ3, l3, y3, z3⟩, st3⟩ := Jvm.LawKit.callS X2 hx (y := (⟨"java/lang/StringUTF16", "compress", "([CII)[B"⟩ : MethodName)) hown (mvT hZ (hw _ (List.mem_of_getElem? (i := 15) rfl))) (mvT hZ (hw _ (List.mem_of_getElem? (i := 16) rfl))) (mvT hZ (hw _ (List.mem_of_getElem? (i := 17) rfl))) (mvT hZ (hw _ (List.mem_of_getElem? (i := 18) rfl))) (by decide) (backOf (W := 0) (rmcompress4 l Z a0 hw [] o1_ ko1_ x0_ x1_ h0 n0 O0 ha0 ha1 P5 P6) hZ (hw _ (List.mem_of_getElem? (i := 18) rfl)) (hw _ (List.mem_of_getElem? (i := 17) rfl)) (by decide) (by decide)) (g := (mkF m 36 #[.val (.ref o0_), .val (.ref o1_), .val (.int (0 : Int32)), .val (.int (2 : Int32)), .val .null, .unset] [(.int (2 : Int32)), (.int (0 : Int32)), (.ref o1_)])) rfl (by rw [hml]; rfl) (argsL := [(.ref o1_), (.int (0 : Int32)), (.int (2 : Int32))]) (rest := []) (lenOf pd_1 rfl) rfl (by show 2 * 0 + _ ≤ _; exact Nat.le_of_eq rfl) (hb hby d2_36) (fun _ _ => ⟨rfl, e2, (by decide : 0 + 1 ≤ _), (by decide : 0 + 2 ≤ _)⟩)
  dsimp only [Pt.U, Pt.locs, Pt.cells, Pt.slots] at X3 l3 y3 z3 st3 hQ3
  subst l3 y3 z3
  obtain ⟨h3, e3⟩ : ∃ z, T3.heap = z := ⟨_, rfl⟩
  rw [e3] at hQ3
  obtain ⟨k1_3, nb1_3, rfl, N3q, K3, sznb1_3, g3_0, g3_1⟩ := hQ3
  have N4 := Fr.app N0 N3q
  have ge5 : n0 ≤ nb1_3 := Nat.le_trans (Nat.le_trans (Nat.le_of_eq O0.1.symm) O0.2.1) sznb1_3
  have sz6 : h0.size ≤ nb1_3 := Nat.le_trans K0.1 sznb1_3
  have f8 : Old Z n0 h3 := O0.keep K3 all0
  obtain ⟨_, _, ⟨T7, L7, k7, n7⟩, -, X7, ⟨Lc7, hQ7, l7, y7, z7⟩, st7⟩ := Jvm.LawKit.callS X3 hx (y := (⟨"java/lang/StringUTF16", "coderFromArrayLen", "([BI)B"⟩ : MethodName)) hown (mvT hZ (hw _ (List.mem_of_getElem? (i := 23) rfl))) (mvT hZ (hw _ (List.mem_of_getElem? (i := 24) rfl))) (mvT hZ (hw _ (List.mem_of_getElem? (i := 17) rfl))) (mvT hZ (hw _ (List.mem_of_getElem? (i := 25) rfl))) (by decide) (backOf (W := 1) (rmcoderFromArrayLen6 l Z a0 hw [] nb1_3 k1_3 (x0_.toInt8.toInt32) (x1_.toInt8.toInt32) h3 n0 f8 g3_0 g3_1) hZ (hw _ (List.mem_of_getElem? (i := 25) rfl)) (hw _ (List.mem_of_getElem? (i := 17) rfl)) (by decide) (by decide)) (g := (mkF m 45 #[.val (.ref o0_), .val (.ref o1_), .val (.int (0 : Int32)), .val (.int (2 : Int32)), .val .null, .val (.ref nb1_3)] [(.int (2 : Int32)), (.ref nb1_3), (.ref o0_)])) rfl (by rw [hml]; rfl) (argsL := [(.ref nb1_3), (.int (2 : Int32))]) (rest := [(.ref o0_)]) (lenOf pd_2 rfl) rfl (by show 2 * 0 + _ ≤ _; exact Nat.le_of_eq rfl) (hb hby d2_45) (fun _ _ => ⟨rfl, e3, (by decide : 1 + 0 ≤ _), (by decide : 2 + 0 ≤ _)⟩)
  dsimp only [Pt.U, Pt.locs, Pt.cells, Pt.slots] at X7 l7 y7 z7 st7 hQ7
  subst l7 y7 z7
  obtain ⟨h7, e7⟩ : ∃ z, T7.heap = z := ⟨_, rfl⟩
  rw [e7] at hQ7
  obtain ⟨rfl, N7q, hh7⟩ := hQ7
  have N9 := Fr.app N4 N7q
  have e7' : T7.heap = h3 := e7.trans hh7
  have f10 : Fld Z h3 o0_ "java/lang/String" "coder" "B" (.int (0 : Int32)) := P3.keep K3 nin0
  have f11 : Exa Z h3 o0_ "java/lang/String" := P2.keep K3
  obtain ⟨T12, h12, X12, e12, W12, st12⟩ := putF X7 hx hZ hown (host := "") (Or.inl (hw _ (List.mem_of_getElem? (i := 26) rfl))) Via.refl e7' f10 f11 (Or.inr ⟨(hw _ (List.mem_of_getElem? (i := 27) rfl)), rfl, hnm⟩) (hw _ (List.mem_of_getElem? (i := 2) rfl)) (ty := .byte) (by decide) rfl rfl (g := (mkF m 48 #[.val (.ref o0_), .val (.ref o1_), .val (.int (0 : Int32)), .val (.int (2 : Int32)), .val .null, .val (.ref nb1_3)] [(.int (0 : Int32)), (.ref o0_)])) rfl rfl (hb hby d2_48)
  have N13 := Fr.snoc X12 N9 P9
  have f14 : Fld Z h12 o0_ "java/lang/String" "coder" "B" (.int (0 : Int32)) := f10.same W12
  have f15 : Fld Z h3 o0_ "java/lang/String" "value" "[B" .null := P4.keep K3 nin0
  have f16 : Fld Z h12 o0_ "java/lang/String" "value" "[B" .null := f15.other W12 (Or.inr (slot_ne (Or.inr (hw _ (List.mem_of_getElem? (i := 29) rfl))) (Or.inr (hw _ (List.mem_of_getElem? (i := 27) rfl))) (by decide) (t := (.array .byte)) (t' := .byte) (by decide) (by decide)))
  have f17 : Exa Z h12 o0_ "java/lang/String" := f11.wr W12
  obtain ⟨T18, h18, X18, e18, W18, st18⟩ := putF X12 hx hZ hown (host := "") (Or.inl (hw _ (List.mem_of_getElem? (i := 28) rfl))) Via.refl e12 f16 f17 (Or.inr ⟨(hw _ (List.mem_of_getElem? (i := 29) rfl)), rfl, hnm⟩) (hw _ (List.mem_of_getElem? (i := 2) rfl)) (ty := (.array .byte)) (by decide) rfl rfl (g := (mkF m 54 #[.val (.ref o0_), .val (.ref o1_), .val (.int (0 : Int32)), .val (.int (2 : Int32)), .val .null, .val (.ref nb1_3)] [(.ref nb1_3), (.ref o0_)])) rfl rfl (hb hby d2_54)
  have N19 := Fr.snoc X18 N13 P9
  have f20 : Fld Z h18 o0_ "java/lang/String" "value" "[B" (.ref nb1_3) := f16.same W18
  have pre21 : ∀ t, Steps p.tables e below (T18.setTop (mkF m 57 #[.val (.ref o0_), .val (.ref o1_), .val (.int (0 : Int32)), .val (.int (2 : Int32)), .val .null, .val (.ref nb1_3)] [])) t → Steps p.tables e below (s₁.setTop (entryFrame m #[(.ref o0_), (.ref o1_), (.int (0 : Int32)), (.int (2 : Int32)), .null] 6)) t := by
    intro t kt
    refine pre0 t ?_
    show Steps p.tables e below (s₁.setTop (mkF m 0 #[.val (.ref o0_), .val (.ref o1_), .val (.int (0 : Int32)), .val (.int (2 : Int32)), .val .null, .unset] [])) _
    refine XS.aloadN X0.here hx rfl (hb hby d2_0) rfl rfl ?_
    show Steps p.tables e below (s₁.setTop (mkF m 1 #[.val (.ref o0_), .val (.ref o1_), .val (.int (0 : Int32)), .val (.int (2 : Int32)), .val .null, .unset] [(.ref o0_)])) _
    refine st1 _ ?_
    show Steps p.tables e below (T1.setTop (mkF m 4 #[.val (.ref o0_), .val (.ref o1_), .val (.int (0 : Int32)), .val (.int (2 : Int32)), .val .null, .unset] [])) _
    refine XS.iloadN X1.here hx rfl (hb hby d2_4) rfl ?_
    show Steps p.tables e below (T1.setTop (mkF m 5 #[.val (.ref o0_), .val (.ref o1_), .val (.int (0 : Int32)), .val (.int (2 : Int32)), .val .null, .unset] [(.int (2 : Int32))])) _
    refine XS.ifYes X1.here hx rfl (pc0 := 5) (pc' := 27) rfl (hb hby d2_5) rfl ((if0 _ _).trans (feq (by decide : ¬ ((2 : Int32) = (0 : Int32)))).2) (by decide) (by decide) ?_
    show Steps p.tables e below (T1.setTop (mkF m 27 #[.val (.ref o0_), .val (.ref o1_), .val (.int (0 : Int32)), .val (.int (2 : Int32)), .val .null, .unset] [])) _
    refine st2 _ ?_
    show Steps p.tables e below (T2.setTop (mkF m 30 #[.val (.ref o0_), .val (.ref o1_), .val (.int (0 : Int32)), .val (.int (2 : Int32)), .val .null, .unset] [(.int x2_)])) _
    refine XS.ifNo X2.here hx rfl (hb hby d2_30) rfl ((if0 _ _).trans (feq P7).1) ?_
    show Steps p.tables e below (T2.setTop (mkF m 33 #[.val (.ref o0_), .val (.ref o1_), .val (.int (0 : Int32)), .val (.int (2 : Int32)), .val .null, .unset] [])) _
    refine XS.aloadN X2.here hx rfl (hb hby d2_33) rfl rfl ?_
    show Steps p.tables e below (T2.setTop (mkF m 34 #[.val (.ref o0_), .val (.ref o1_), .val (.int (0 : Int32)), .val (.int (2 : Int32)), .val .null, .unset] [(.ref o1_)])) _
    refine XS.iloadN X2.here hx rfl (hb hby d2_34) rfl ?_
    show Steps p.tables e below (T2.setTop (mkF m 35 #[.val (.ref o0_), .val (.ref o1_), .val (.int (0 : Int32)), .val (.int (2 : Int32)), .val .null, .unset] [(.int (0 : Int32)), (.ref o1_)])) _
    refine XS.iloadN X2.here hx rfl (hb hby d2_35) rfl ?_
    show Steps p.tables e below (T2.setTop (mkF m 36 #[.val (.ref o0_), .val (.ref o1_), .val (.int (0 : Int32)), .val (.int (2 : Int32)), .val .null, .unset] [(.int (2 : Int32)), (.int (0 : Int32)), (.ref o1_)])) _
    refine st3 _ ?_
    show Steps p.tables e below (T3.setTop (mkF m 39 #[.val (.ref o0_), .val (.ref o1_), .val (.int (0 : Int32)), .val (.int (2 : Int32)), .val .null, .unset] [(.ref nb1_3)])) _
    refine XS.astore X3.here hx rfl (hb hby d2_39) rfl rfl (l' := #[.val (.ref o0_), .val (.ref o1_), .val (.int (0 : Int32)), .val (.int (2 : Int32)), .val .null, .val (.ref nb1_3)]) rfl ?_
    show Steps p.tables e below (T3.setTop (mkF m 41 #[.val (.ref o0_), .val (.ref o1_), .val (.int (0 : Int32)), .val (.int (2 : Int32)), .val .null, .val (.ref nb1_3)] [])) _
    refine XS.aloadN X3.here hx rfl (hb hby d2_41) rfl rfl ?_
    show Steps p.tables e below (T3.setTop (mkF m 42 #[.val (.ref o0_), .val (.ref o1_), .val (.int (0 : Int32)), .val (.int (2 : Int32)), .val .null, .val (.ref nb1_3)] [(.ref o0_)])) _
    refine XS.aload X3.here hx rfl (hb hby d2_42) rfl rfl ?_
    show Steps p.tables e below (T3.setTop (mkF m 44 #[.val (.ref o0_), .val (.ref o1_), .val (.int (0 : Int32)), .val (.int (2 : Int32)), .val .null, .val (.ref nb1_3)] [(.ref nb1_3), (.ref o0_)])) _
    refine XS.iloadN X3.here hx rfl (hb hby d2_44) rfl ?_
    show Steps p.tables e below (T3.setTop (mkF m 45 #[.val (.ref o0_), .val (.ref o1_), .val (.int (0 : Int32)), .val (.int (2 : Int32)), .val .null, .val (.ref nb1_3)] [(.int (2 : Int32)), (.ref nb1_3), (.ref o0_)])) _
    refine st7 _ ?_
    show Steps p.tables e below (T7.setTop (mkF m 48 #[.val (.ref o0_), .val (.ref o1_), .val (.int (0 : Int32)), .val (.int (2 : Int32)), .val .null, .val (.ref nb1_3)] [(.int (0 : Int32)), (.ref o0_)])) _
    refine st12 _ ?_
    show Steps p.tables e below (T12.setTop (mkF m 51 #[.val (.ref o0_), .val (.ref o1_), .val (.int (0 : Int32)), .val (.int (2 : Int32)), .val .null, .val (.ref nb1_3)] [])) _
    refine XS.aloadN X12.here hx rfl (hb hby d2_51) rfl rfl ?_
    show Steps p.tables e below (T12.setTop (mkF m 52 #[.val (.ref o0_), .val (.ref o1_), .val (.int (0 : Int32)), .val (.int (2 : Int32)), .val .null, .val (.ref nb1_3)] [(.ref o0_)])) _
    refine XS.aload X12.here hx rfl (hb hby d2_52) rfl rfl ?_
    show Steps p.tables e below (T12.setTop (mkF m 54 #[.val (.ref o0_), .val (.ref o1_), .val (.int (0 : Int32)), .val (.int (2 : Int32)), .val .null, .val (.ref nb1_3)] [(.ref nb1_3), (.ref o0_)])) _
    refine st18 _ ?_
    exact kt
  have f23 : Keep h0 h3 [o0_] := K0.trans K3 all0
  have f24 : Keep h0 h12 [o0_] := f23.wr W12 (Or.inl (List.mem_of_getElem? (i := 0) rfl))
  have f25 : Keep h0 h18 [o0_] := f24.wr W18 (Or.inl (List.mem_of_getElem? (i := 0) rfl))
  have f26 : Exa Z h18 o0_ "java/lang/String" := f17.wr W18
  have f27 : Fld Z h18 o0_ "java/lang/String" "coder" "B" (.int (0 : Int32)) := f14.other W18 (Or.inr (slot_ne (Or.inr (hw _ (List.mem_of_getElem? (i := 27) rfl))) (Or.inr (hw _ (List.mem_of_getElem? (i := 29) rfl))) (by decide) (t := .byte) (t' := (.array .byte)) (by decide) (by decide)))
  have ne29 : o0_ ≠ nb1_3 := Nat.ne_of_lt (Nat.lt_of_lt_of_le P2.lt sznb1_3)
  have f28 : Arv Z h12 nb1_3 k1_3 .byte (2 : Int32) [(.int (x0_.toInt8.toInt32)), (.int (x1_.toInt8.toInt32))] (.int (0 : Int32)) := g3_0.other W12 (Ne.symm ne29)
  have f30 : Arv Z h18 nb1_3 k1_3 .byte (2 : Int32) [(.int (x0_.toInt8.toInt32)), (.int (x1_.toInt8.toInt32))] (.int (0 : Int32)) := f28.other W18 (Ne.symm ne29)
  have f31 : Exa Z h12 nb1_3 "[B" := g3_1.wr W12
  have f32 : Exa Z h18 nb1_3 "[B" := f31.wr W18
  obtain ⟨fs, hr, hrun, hended, hW, hsame⟩ := X18.leave (v := none) (fun _ => rfl)
  refine ⟨_, _, pre21 _ (X18.returnOut hx Bd.returns (hb hby d2_57) hr), hrun, hended, _, _, rfl, ?_, ⟨_, rfl⟩, hW, hsame.mono (by decide) (by decide)⟩
  show Qinit3 Z o0_ o1_ ko1_ x0_ x1_ x2_ h0 n0 _ T18.heap _
  rw [e18]
  exact ⟨k1_3, nb1_3, rfl, N19, f25, sz6, f26, f27, f20, f30, f32⟩
theorem pd_3 : parseMethodDescriptor "([CIILjava/lang/Void;)V" = some ⟨[(.array .char), .int, .int, (.object "java/lang/Void")], none⟩ := by decide +kernel
theorem d1_9 : decode jdk_42_method_3_code 9 = .ok (.return_, 1) := by decide +kernel
theorem efinit1 (m : MethodId) (o0_ : Addr) (o1_ : Addr) : entryFrame m #[(.ref o0_), (.ref o1_)] 2 = mkF m 0 #[.val (.ref o0_), .val (.ref o1_)] [] := by first | (simp [entryFrame, mkF, argsToLocals, Value.category]; done) | rfl
def Qinit1 (Z : State) (o0_ : Addr) (o1_ : Addr) (ko1_ : ClassId) (x0_ : Int32) (x1_ : Int32) (x2_ : Int32) (h0 : Heap) (n0 : Nat) (v : Option Value) (h : Heap) (L : List Loc) : Prop := ∃ k1_3_2 : ClassId, ∃ nnnb1_3_2 : Addr, v = none ∧ Fr n0 L ∧ Keep h0 h [o0_] ∧ h0.size ≤ nnnb1_3_2 ∧ Exa Z h o0_ "java/lang/String" ∧ Fld Z h o0_ "java/lang/String" "coder" "B" (.int (0 : Int32)) ∧ Fld Z h o0_ "java/lang/String" "value" "[B" (.ref nnnb1_3_2) ∧ Arv Z h nnnb1_3_2 k1_3_2 .byte (2 : Int32) [(.int (x0_.toInt8.toInt32)), (.int (x1_.toInt8.toInt32))] (.int (0 : Int32)) ∧ Exa Z h nnnb1_3_2 "[B"
set_option maxRecDepth 65536 in
set_option maxHeartbeats 40000000 in
theorem rminit1 (l : Launch) (Z : State) (a0 : Array Value) (hw : ∀ d ∈ tables_1, d.before a0 Z = true) (ws : List Jvm.Cond) (o0_ : Addr) (o1_ : Addr) (ko1_ : ClassId) (x0_ : Int32) (x1_ : Int32) (x2_ : Int32) (h0 : Heap) (n0 : Nat) (O0 : Old Z n0 h0) (ha0 : ¬ ((255 : Int32) < x0_)) (ha1 : ¬ ((255 : Int32) < x1_)) (P2 : Exa Z h0 o0_ "java/lang/String") (P3 : Fld Z h0 o0_ "java/lang/String" "coder" "B" (.int (0 : Int32))) (P4 : Fld Z h0 o0_ "java/lang/String" "value" "[B" .null) (P5 : Arv Z h0 o1_ ko1_ .char (2 : Int32) [(.int x0_), (.int x1_)] (.int (0 : Int32))) (P6 : Exa Z h0 o1_ "[C") (P7 : ¬ (x2_ = (0 : Int32))) (P8 : Sta Z Z.heap "java/lang/String" "COMPACT_STRINGS" "Z" (.int x2_)) (P9 : n0 ≤ o0_) :
    MetFree l (⟨"java/lang/String", "<init>", "([C)V"⟩ : MethodName) (head1 (Jvm.Cond.code (⟨"java/lang/String", "<init>", "([C)V"⟩ : MethodName) jdk_42_method_3_code 2 none :: ws) ({ frames := 3, cells := 1, slots := 2, locals := 52 } : Room)) (fun a U => a = #[(.ref o0_), (.ref o1_)] ∧ Z.Warmed39 U.vm ∧ U.heap = h0) (fun _ _ _ _ _ => True) (fun _ U o U' => ∃ v L, o = .returned v ∧ Qinit1 Z o0_ o1_ ko1_ x0_ x1_ x2_ h0 n0 v U'.heap L ∧ FrameEnd U o U' L ({ frames := 3, cells := 1, slots := 2, locals := 52 } : Room).cells ({ frames := 3, cells := 1, slots := 2, locals := 52 } : Room).slots) := by
  refine MetFree.of_bodySF (plainFor_of_name pn_1) hisR ?_
  intro p e s m args below meth c s₁ Bd hml0 hP hK
  obtain ⟨rfl, hZ, hh⟩ := hP
  have hx := Bd.exec
  have hby := Bd.bytes
  have hml : c.maxLocals = 2 := hml0
  have hown : s.vm.findClass "java/lang/String" = some m.cls := findClass_of_methodNamed Bd.named
  have hnm := (name_of_methodNamed Bd.named Bd.method).1
  have X0 : Stand p l e ({ frames := 3, cells := 1, slots := 2, locals := 52 } : Room) s m #[(.ref o0_), (.ref o1_)] below meth c s₁ [] 0 0 := Stand.of_body Bd
  have e0 : s₁.heap = h0 := by rw [← hh, Bd.state]; rfl
  have N0 := Fr.nil n0
  have pre0 : ∀ t, Steps p.tables e below (s₁.setTop (mkF m 0 #[.val (.ref o0_), .val (.ref o1_)] [])) t → Steps p.tables e below (s₁.setTop (entryFrame m #[(.ref o0_), (.ref o1_)] 2)) t := fun t k => castTop (efinit1 m o0_ o1_) k
  have K0 : Keep h0 h0 [o0_] := Keep.refl _ _
  obtain ⟨c1, r1, q1, s1, z1, y1, G1⟩ := id P5
  obtain ⟨_, _, ⟨T2, L2, k2, n2⟩, -, X2, ⟨Lc2, hQ2, l2, y2, z2⟩, st2⟩ := X0.specialBack hx (y := (⟨"java/lang/String", "<init>", "([CIILjava/lang/Void;)V"⟩ : MethodName)) rfl hown (mvT hZ (hw _ (List.mem_of_getElem? (i := 7) rfl))) (mvT hZ (hw _ (List.mem_of_getElem? (i := 8) rfl))) (mvT hZ (hw _ (List.mem_of_getElem? (i := 10) rfl))) (by decide) (backOf (W := 0) (rminit3 l Z a0 hw [] o0_ o1_ ko1_ x0_ x1_ x2_ h0 n0 O0 ha0 ha1 P2 P3 P4 P5 P6 P7 P8 P9) hZ (hw _ (List.mem_of_getElem? (i := 10) rfl)) (hw _ (List.mem_of_getElem? (i := 3) rfl)) (by decide) (by decide)) (g := (mkF m 6 #[.val (.ref o0_), .val (.ref o1_)] [.null, (.int (2 : Int32)), (.int (0 : Int32)), (.ref o1_), (.ref o0_)])) rfl (by rw [hml]; rfl) (Steps.refl _) (a := o0_) (argsL := [(.ref o1_), (.int (0 : Int32)), (.int (2 : Int32)), .null]) (rest := []) (lenOf pd_3 rfl) rfl (by show 2 * 0 + _ ≤ _; exact Nat.le_of_eq rfl) (hb hby d1_6) (fun _ _ => ⟨rfl, e0, (by decide : 0 + 1 ≤ _), (by decide : 0 + 2 ≤ _)⟩)
  dsimp only [Pt.U, Pt.locs, Pt.cells, Pt.slots] at X2 l2 y2 z2 st2 hQ2
  subst l2 y2 z2
  obtain ⟨h2, e2⟩ : ∃ z, T2.heap = z := ⟨_, rfl⟩
  rw [e2] at hQ2
  obtain ⟨k1_3_2, nnb1_3_2, rfl, N2q, K2, sznnb1_3_2, g2_0, g2_1, g2_2, g2_3, g2_4⟩ := hQ2
  have N3 := Fr.app N0 N2q
  have ge4 : n0 ≤ nnb1_3_2 := Nat.le_trans (Nat.le_trans (Nat.le_of_eq O0.1.symm) O0.2.1) sznnb1_3_2
  have sz5 : h0.size ≤ nnb1_3_2 := Nat.le_trans K0.1 sznnb1_3_2
  have pre6 : ∀ t, Steps p.tables e below (T2.setTop (mkF m 9 #[.val (.ref o0_), .val (.ref o1_)] [])) t → Steps p.tables e below (s₁.setTop (entryFrame m #[(.ref o0_), (.ref o1_)] 2)) t := by
    intro t kt
    refine pre0 t ?_
    show Steps p.tables e below (s₁.setTop (mkF m 0 #[.val (.ref o0_), .val (.ref o1_)] [])) _
    refine XS.aloadN X0.here hx rfl (hb hby d1_0) rfl rfl ?_
    show Steps p.tables e below (s₁.setTop (mkF m 1 #[.val (.ref o0_), .val (.ref o1_)] [(.ref o0_)])) _
    refine XS.aloadN X0.here hx rfl (hb hby d1_1) rfl rfl ?_
    show Steps p.tables e below (s₁.setTop (mkF m 2 #[.val (.ref o0_), .val (.ref o1_)] [(.ref o1_), (.ref o0_)])) _
    refine XS.iconst X0.here hx rfl (hb hby d1_2) ?_
    show Steps p.tables e below (s₁.setTop (mkF m 3 #[.val (.ref o0_), .val (.ref o1_)] [(.int (0 : Int32)), (.ref o1_), (.ref o0_)])) _
    refine XS.aloadN X0.here hx rfl (hb hby d1_3) rfl rfl ?_
    show Steps p.tables e below (s₁.setTop (mkF m 4 #[.val (.ref o0_), .val (.ref o1_)] [(.ref o1_), (.int (0 : Int32)), (.ref o1_), (.ref o0_)])) _
    refine X0.arraylength hx (by rw [e0]; exact r1.1) (State.isArrayOf_alike hZ.alike r1.2.1) (g := (mkF m 4 #[.val (.ref o0_), .val (.ref o1_)] [(.ref o1_), (.int (0 : Int32)), (.ref o1_), (.ref o0_)])) rfl rfl (hb hby d1_4) _ ?_
    rw [len_of s1 z1]
    show Steps p.tables e below (s₁.setTop (mkF m 5 #[.val (.ref o0_), .val (.ref o1_)] [(.int (2 : Int32)), (.int (0 : Int32)), (.ref o1_), (.ref o0_)])) _
    refine XS.aconstNull X0.here hx rfl (hb hby d1_5) ?_
    show Steps p.tables e below (s₁.setTop (mkF m 6 #[.val (.ref o0_), .val (.ref o1_)] [.null, (.int (2 : Int32)), (.int (0 : Int32)), (.ref o1_), (.ref o0_)])) _
    refine st2.trans ?_
    exact kt
  have f8 : Keep h0 h2 [o0_] := K0.trans K2 (allS (Or.inl (List.mem_of_getElem? (i := 0) rfl)) all0)
  obtain ⟨fs, hr, hrun, hended, hW, hsame⟩ := X2.leave (v := none) (fun _ => rfl)
  refine ⟨_, _, pre6 _ (X2.returnOut hx Bd.returns (hb hby d1_9) hr), hrun, hended, _, _, rfl, ?_, ⟨_, rfl⟩, hW, hsame.mono (by decide) (by decide)⟩
  show Qinit1 Z o0_ o1_ ko1_ x0_ x1_ x2_ h0 n0 _ T2.heap _
  rw [e2]
  exact ⟨k1_3_2, nnb1_3_2, rfl, N3, f8, sz5, g2_0, g2_1, g2_2, g2_3, g2_4⟩
theorem pd_4 : parseMethodDescriptor "([C)V" = some ⟨[(.array .char)], none⟩ := by decide +kernel
theorem efcompress11 (m : MethodId) (o0_ : Addr) (o1_ : Addr) : entryFrame m #[(.ref o0_), (.int (0 : Int32)), (.ref o1_), (.int (0 : Int32)), (.int (1 : Int32))] 7 = mkF m 0 #[.val (.ref o0_), .val (.int (0 : Int32)), .val (.ref o1_), .val (.int (0 : Int32)), .val (.int (1 : Int32)), .unset, .unset] [] := by first | (simp [entryFrame, mkF, argsToLocals, Value.category]; done) | rfl
def Qcompress11 (Z : State) (o0_ : Addr) (o1_ : Addr) (ko0_ : ClassId) (x0_ : Int32) (ko1_ : ClassId) (h0 : Heap) (n0 : Nat) (v : Option Value) (h : Heap) (L : List Loc) : Prop := v = some (.int (1 : Int32)) ∧ Fr n0 L ∧ Keep h0 h [o1_] ∧ Arv Z h o1_ ko1_ .byte (1 : Int32) [(.int (x0_.toInt8.toInt32))] (.int (0 : Int32)) ∧ Exa Z h o1_ "[B"
set_option maxRecDepth 65536 in
set_option maxHeartbeats 40000000 in
theorem rmcompress11 (l : Launch) (Z : State) (a0 : Array Value) (hw : ∀ d ∈ tables_1, d.before a0 Z = true) (ws : List Jvm.Cond) (o0_ : Addr) (o1_ : Addr) (ko0_ : ClassId) (x0_ : Int32) (ko1_ : ClassId) (h0 : Heap) (n0 : Nat) (O0 : Old Z n0 h0) (ha0 : ¬ ((255 : Int32) < x0_)) (P1 : Arv Z h0 o0_ ko0_ .char (1 : Int32) [(.int x0_)] (.int (0 : Int32))) (P2 : Exa Z h0 o0_ "[C") (P3 : Arv Z h0 o1_ ko1_ .byte (1 : Int32) [(.int (0 : Int32))] (.int (0 : Int32))) (P4 : Exa Z h0 o1_ "[B") (P5 : n0 ≤ o1_) :
    MetFree l (⟨"java/lang/StringUTF16", "compress", "([CI[BII)I"⟩ : MethodName) (head1 (Jvm.Cond.code (⟨"java/lang/StringUTF16", "compress", "([CI[BII)I"⟩ : MethodName) jdk_52_method_21_code 7 (some .int) :: ws) ({ frames := 0, cells := 0, slots := 0, locals := 0 } : Room)) (fun a U => a = #[(.ref o0_), (.int (0 : Int32)), (.ref o1_), (.int (0 : Int32)), (.int (1 : Int32))] ∧ Z.Warmed39 U.vm ∧ U.heap = h0) (fun _ _ _ _ _ => True) (fun _ U o U' => ∃ v L, o = .returned v ∧ Qcompress11 Z o0_ o1_ ko0_ x0_ ko1_ h0 n0 v U'.heap L ∧ FrameEnd U o U' L ({ frames := 0, cells := 0, slots := 0, locals := 0 } : Room).cells ({ frames := 0, cells := 0, slots := 0, locals := 0 } : Room).slots) := by
  refine MetFree.of_bodySF (plainFor_of_name pn_0) hisR ?_
  intro p e s m args below meth c s₁ Bd hml0 hP hK
  obtain ⟨rfl, hZ, hh⟩ := hP
  have hx := Bd.exec
  have hby := Bd.bytes
  have hml : c.maxLocals = 7 := hml0
  have hown : s.vm.findClass "java/lang/StringUTF16" = some m.cls := findClass_of_methodNamed Bd.named
  have hnm := (name_of_methodNamed Bd.named Bd.method).1
  have X0 : Stand p l e ({ frames := 0, cells := 0, slots := 0, locals := 0 } : Room) s m #[(.ref o0_), (.int (0 : Int32)), (.ref o1_), (.int (0 : Int32)), (.int (1 : Int32))] below meth c s₁ [] 0 0 := Stand.of_body Bd
  have e0 : s₁.heap = h0 := by rw [← hh, Bd.state]; rfl
  have N0 := Fr.nil n0
  have pre0 : ∀ t, Steps p.tables e below (s₁.setTop (mkF m 0 #[.val (.ref o0_), .val (.int (0 : Int32)), .val (.ref o1_), .val (.int (0 : Int32)), .val (.int (1 : Int32)), .unset, .unset] [])) t → Steps p.tables e below (s₁.setTop (entryFrame m #[(.ref o0_), (.int (0 : Int32)), (.ref o1_), (.int (0 : Int32)), (.int (1 : Int32))] 7)) t := fun t k => castTop (efcompress11 m o0_ o1_) k
  have K0 : Keep h0 h0 [o1_] := Keep.refl _ _
  obtain ⟨c1, r1, q1, s1, z1, y1, G1⟩ := id P1
  have hin1 : ¬ ((0 : Int32) < 0 ∨ c1.slots.size ≤ ((0 : Int32)).toNatClampNeg) := inb_of s1 ⟨by decide, by decide⟩
  have hat1 : c1.slots[((0 : Int32)).toNatClampNeg]? = some (.int x0_) := Has.at y1 hin1 rfl
  obtain ⟨c2, r2, q2, s2, z2, y2, G2⟩ := id P3
  have hin2 : ¬ ((0 : Int32) < 0 ∨ c2.slots.size ≤ ((0 : Int32)).toNatClampNeg) := inb_of s2 ⟨by decide, by decide⟩
  obtain ⟨T2, h2, X2, e2, W2, st2⟩ := stB X0 hx hZ e0 r2 (j := (0 : Int32)) hin2 (g := (mkF m 31 #[.val (.ref o0_), .val (.int (0 : Int32)), .val (.ref o1_), .val (.int (0 : Int32)), .val (.int (1 : Int32)), .val (.int (0 : Int32)), .val (.int x0_)] [(.int (x0_.toInt8.toInt32)), (.int (0 : Int32)), (.ref o1_)])) rfl rfl (hb hby d4_31)
  have N3 := Fr.snoc X2 N0 P5
  have f4 : Arv Z h2 o1_ ko1_ .byte (1 : Int32) [(.int ((x0_.toInt8.toInt32).toInt8.toInt32))] (.int (0 : Int32)) := Arv.set r2 q2 s2 z2 y2 G2 (fits_nar_byte _) W2 0 rfl (Nat.le_of_ble_eq_true rfl)
  have f5 : Arv Z h2 o1_ ko1_ .byte (1 : Int32) [(.int (x0_.toInt8.toInt32))] (.int (0 : Int32)) := by have q := f4; rw [own_i2b2] at q; exact q
  have pre6 : ∀ t, Steps p.tables e below (T2.setTop (mkF m 46 #[.val (.ref o0_), .val (.int (1 : Int32)), .val (.ref o1_), .val (.int (1 : Int32)), .val (.int (1 : Int32)), .val (.int (1 : Int32)), .val (.int x0_)] [(.int (1 : Int32))])) t → Steps p.tables e below (s₁.setTop (entryFrame m #[(.ref o0_), (.int (0 : Int32)), (.ref o1_), (.int (0 : Int32)), (.int (1 : Int32))] 7)) t := by
    intro t kt
    refine pre0 t ?_
    show Steps p.tables e below (s₁.setTop (mkF m 0 #[.val (.ref o0_), .val (.int (0 : Int32)), .val (.ref o1_), .val (.int (0 : Int32)), .val (.int (1 : Int32)), .unset, .unset] [])) _
    refine XS.iconst X0.here hx rfl (hb hby d4_0) ?_
    show Steps p.tables e below (s₁.setTop (mkF m 1 #[.val (.ref o0_), .val (.int (0 : Int32)), .val (.ref o1_), .val (.int (0 : Int32)), .val (.int (1 : Int32)), .unset, .unset] [(.int (0 : Int32))])) _
    refine XS.istore X0.here hx rfl (hb hby d4_1) rfl (l' := #[.val (.ref o0_), .val (.int (0 : Int32)), .val (.ref o1_), .val (.int (0 : Int32)), .val (.int (1 : Int32)), .val (.int (0 : Int32)), .unset]) rfl ?_
    show Steps p.tables e below (s₁.setTop (mkF m 3 #[.val (.ref o0_), .val (.int (0 : Int32)), .val (.ref o1_), .val (.int (0 : Int32)), .val (.int (1 : Int32)), .val (.int (0 : Int32)), .unset] [])) _
    refine XS.iload X0.here hx rfl (hb hby d4_3) rfl ?_
    show Steps p.tables e below (s₁.setTop (mkF m 5 #[.val (.ref o0_), .val (.int (0 : Int32)), .val (.ref o1_), .val (.int (0 : Int32)), .val (.int (1 : Int32)), .val (.int (0 : Int32)), .unset] [(.int (0 : Int32))])) _
    refine XS.iload X0.here hx rfl (hb hby d4_5) rfl ?_
    show Steps p.tables e below (s₁.setTop (mkF m 7 #[.val (.ref o0_), .val (.int (0 : Int32)), .val (.ref o1_), .val (.int (0 : Int32)), .val (.int (1 : Int32)), .val (.int (0 : Int32)), .unset] [(.int (1 : Int32)), (.int (0 : Int32))])) _
    refine XS.icmpNo X0.here hx rfl (hb hby d4_7) rfl (tlt (by decide : (0 : Int32) < (1 : Int32))).2.1 ?_
    show Steps p.tables e below (s₁.setTop (mkF m 10 #[.val (.ref o0_), .val (.int (0 : Int32)), .val (.ref o1_), .val (.int (0 : Int32)), .val (.int (1 : Int32)), .val (.int (0 : Int32)), .unset] [])) _
    refine XS.aloadN X0.here hx rfl (hb hby d4_10) rfl rfl ?_
    show Steps p.tables e below (s₁.setTop (mkF m 11 #[.val (.ref o0_), .val (.int (0 : Int32)), .val (.ref o1_), .val (.int (0 : Int32)), .val (.int (1 : Int32)), .val (.int (0 : Int32)), .unset] [(.ref o0_)])) _
    refine XS.iloadN X0.here hx rfl (hb hby d4_11) rfl ?_
    show Steps p.tables e below (s₁.setTop (mkF m 12 #[.val (.ref o0_), .val (.int (0 : Int32)), .val (.ref o1_), .val (.int (0 : Int32)), .val (.int (1 : Int32)), .val (.int (0 : Int32)), .unset] [(.int (0 : Int32)), (.ref o0_)])) _
    refine X0.caload hx (j := (0 : Int32)) (v := (.int x0_)) (by rw [e0]; exact r1.1) (State.isArrayOf_alike hZ.alike r1.2.1) r1.2.2 hin1 hat1 (g := (mkF m 12 #[.val (.ref o0_), .val (.int (0 : Int32)), .val (.ref o1_), .val (.int (0 : Int32)), .val (.int (1 : Int32)), .val (.int (0 : Int32)), .unset] [(.int (0 : Int32)), (.ref o0_)])) rfl rfl (hb hby d4_12) _ ?_
    show Steps p.tables e below (s₁.setTop (mkF m 13 #[.val (.ref o0_), .val (.int (0 : Int32)), .val (.ref o1_), .val (.int (0 : Int32)), .val (.int (1 : Int32)), .val (.int (0 : Int32)), .unset] [(.int x0_)])) _
    refine XS.istore X0.here hx rfl (hb hby d4_13) rfl (l' := #[.val (.ref o0_), .val (.int (0 : Int32)), .val (.ref o1_), .val (.int (0 : Int32)), .val (.int (1 : Int32)), .val (.int (0 : Int32)), .val (.int x0_)]) rfl ?_
    show Steps p.tables e below (s₁.setTop (mkF m 15 #[.val (.ref o0_), .val (.int (0 : Int32)), .val (.ref o1_), .val (.int (0 : Int32)), .val (.int (1 : Int32)), .val (.int (0 : Int32)), .val (.int x0_)] [])) _
    refine XS.iload X0.here hx rfl (hb hby d4_15) rfl ?_
    show Steps p.tables e below (s₁.setTop (mkF m 17 #[.val (.ref o0_), .val (.int (0 : Int32)), .val (.ref o1_), .val (.int (0 : Int32)), .val (.int (1 : Int32)), .val (.int (0 : Int32)), .val (.int x0_)] [(.int x0_)])) _
    refine XS.sipush X0.here hx rfl (hb hby d4_17) ?_
    show Steps p.tables e below (s₁.setTop (mkF m 20 #[.val (.ref o0_), .val (.int (0 : Int32)), .val (.ref o1_), .val (.int (0 : Int32)), .val (.int (1 : Int32)), .val (.int (0 : Int32)), .val (.int x0_)] [(.int (255 : Int32)), (.int x0_)])) _
    refine XS.icmpYes X0.here hx rfl (pc0 := 20) (pc' := 26) rfl (hb hby d4_20) rfl (flt ha0).2.2.2 (by decide) (by decide) ?_
    show Steps p.tables e below (s₁.setTop (mkF m 26 #[.val (.ref o0_), .val (.int (0 : Int32)), .val (.ref o1_), .val (.int (0 : Int32)), .val (.int (1 : Int32)), .val (.int (0 : Int32)), .val (.int x0_)] [])) _
    refine XS.aloadN X0.here hx rfl (hb hby d4_26) rfl rfl ?_
    show Steps p.tables e below (s₁.setTop (mkF m 27 #[.val (.ref o0_), .val (.int (0 : Int32)), .val (.ref o1_), .val (.int (0 : Int32)), .val (.int (1 : Int32)), .val (.int (0 : Int32)), .val (.int x0_)] [(.ref o1_)])) _
    refine XS.iloadN X0.here hx rfl (hb hby d4_27) rfl ?_
    show Steps p.tables e below (s₁.setTop (mkF m 28 #[.val (.ref o0_), .val (.int (0 : Int32)), .val (.ref o1_), .val (.int (0 : Int32)), .val (.int (1 : Int32)), .val (.int (0 : Int32)), .val (.int x0_)] [(.int (0 : Int32)), (.ref o1_)])) _
    refine XS.iload X0.here hx rfl (hb hby d4_28) rfl ?_
    show Steps p.tables e below (s₁.setTop (mkF m 30 #[.val (.ref o0_), .val (.int (0 : Int32)), .val (.ref o1_), .val (.int (0 : Int32)), .val (.int (1 : Int32)), .val (.int (0 : Int32)), .val (.int x0_)] [(.int x0_), (.int (0 : Int32)), (.ref o1_)])) _
    refine XS.i2b X0.here hx rfl (hb hby d4_30) rfl ?_
    show Steps p.tables e below (s₁.setTop (mkF m 31 #[.val (.ref o0_), .val (.int (0 : Int32)), .val (.ref o1_), .val (.int (0 : Int32)), .val (.int (1 : Int32)), .val (.int (0 : Int32)), .val (.int x0_)] [(.int (x0_.toInt8.toInt32)), (.int (0 : Int32)), (.ref o1_)])) _
    refine st2 _ ?_
    show Steps p.tables e below (T2.setTop (mkF m 32 #[.val (.ref o0_), .val (.int (0 : Int32)), .val (.ref o1_), .val (.int (0 : Int32)), .val (.int (1 : Int32)), .val (.int (0 : Int32)), .val (.int x0_)] [])) _
    refine XS.iinc X2.here hx rfl (hb hby d4_32) rfl (l' := #[.val (.ref o0_), .val (.int (1 : Int32)), .val (.ref o1_), .val (.int (0 : Int32)), .val (.int (1 : Int32)), .val (.int (0 : Int32)), .val (.int x0_)]) rfl ?_
    show Steps p.tables e below (T2.setTop (mkF m 35 #[.val (.ref o0_), .val (.int (1 : Int32)), .val (.ref o1_), .val (.int (0 : Int32)), .val (.int (1 : Int32)), .val (.int (0 : Int32)), .val (.int x0_)] [])) _
    refine XS.iinc X2.here hx rfl (hb hby d4_35) rfl (l' := #[.val (.ref o0_), .val (.int (1 : Int32)), .val (.ref o1_), .val (.int (1 : Int32)), .val (.int (1 : Int32)), .val (.int (0 : Int32)), .val (.int x0_)]) rfl ?_
    show Steps p.tables e below (T2.setTop (mkF m 38 #[.val (.ref o0_), .val (.int (1 : Int32)), .val (.ref o1_), .val (.int (1 : Int32)), .val (.int (1 : Int32)), .val (.int (0 : Int32)), .val (.int x0_)] [])) _
    refine XS.iinc X2.here hx rfl (hb hby d4_38) rfl (l' := #[.val (.ref o0_), .val (.int (1 : Int32)), .val (.ref o1_), .val (.int (1 : Int32)), .val (.int (1 : Int32)), .val (.int (1 : Int32)), .val (.int x0_)]) rfl ?_
    show Steps p.tables e below (T2.setTop (mkF m 41 #[.val (.ref o0_), .val (.int (1 : Int32)), .val (.ref o1_), .val (.int (1 : Int32)), .val (.int (1 : Int32)), .val (.int (1 : Int32)), .val (.int x0_)] [])) _
    refine XS.goto X2.here hx rfl (pc0 := 41) (pc' := 3) rfl (hb hby d4_41) (by decide) (by decide) ?_
    show Steps p.tables e below (T2.setTop (mkF m 3 #[.val (.ref o0_), .val (.int (1 : Int32)), .val (.ref o1_), .val (.int (1 : Int32)), .val (.int (1 : Int32)), .val (.int (1 : Int32)), .val (.int x0_)] [])) _
    refine XS.iload X2.here hx rfl (hb hby d4_3) rfl ?_
    show Steps p.tables e below (T2.setTop (mkF m 5 #[.val (.ref o0_), .val (.int (1 : Int32)), .val (.ref o1_), .val (.int (1 : Int32)), .val (.int (1 : Int32)), .val (.int (1 : Int32)), .val (.int x0_)] [(.int (1 : Int32))])) _
    refine XS.iload X2.here hx rfl (hb hby d4_5) rfl ?_
    show Steps p.tables e below (T2.setTop (mkF m 7 #[.val (.ref o0_), .val (.int (1 : Int32)), .val (.ref o1_), .val (.int (1 : Int32)), .val (.int (1 : Int32)), .val (.int (1 : Int32)), .val (.int x0_)] [(.int (1 : Int32)), (.int (1 : Int32))])) _
    refine XS.icmpYes X2.here hx rfl (pc0 := 7) (pc' := 44) rfl (hb hby d4_7) rfl (flt (by decide : ¬ ((1 : Int32) < (1 : Int32)))).2.1 (by decide) (by decide) ?_
    show Steps p.tables e below (T2.setTop (mkF m 44 #[.val (.ref o0_), .val (.int (1 : Int32)), .val (.ref o1_), .val (.int (1 : Int32)), .val (.int (1 : Int32)), .val (.int (1 : Int32)), .val (.int x0_)] [])) _
    refine XS.iload X2.here hx rfl (hb hby d4_44) rfl ?_
    exact kt
  have f8 : Keep h0 h2 [o1_] := K0.wr W2 (Or.inl (List.mem_of_getElem? (i := 0) rfl))
  have f9 : Exa Z h2 o1_ "[B" := P4.wr W2
  obtain ⟨fs, hr, hrun, hended, hW, hsame⟩ := X2.leave (v := some (.int (1 : Int32))) (fun h => by rw [Bd.returns] at h; cases h)
  refine ⟨_, _, pre6 _ (retOut X2 hx Bd.returns rfl (Or.inl ⟨rfl, Or.inl rfl, _, rfl⟩) (hb hby d4_46) hr), hrun, hended, _, _, rfl, ?_, ⟨_, rfl⟩, hW, hsame.mono (by decide) (by decide)⟩
  show Qcompress11 Z o0_ o1_ ko0_ x0_ ko1_ h0 n0 _ T2.heap _
  rw [e2]
  exact ⟨rfl, N3, f8, f5, f9⟩
theorem efcompress10 (m : MethodId) (o0_ : Addr) : entryFrame m #[(.ref o0_), (.int (0 : Int32)), (.int (1 : Int32))] 6 = mkF m 0 #[.val (.ref o0_), .val (.int (0 : Int32)), .val (.int (1 : Int32)), .unset, .unset, .unset] [] := by first | (simp [entryFrame, mkF, argsToLocals, Value.category]; done) | rfl
def Qcompress10 (Z : State) (o0_ : Addr) (ko0_ : ClassId) (x0_ : Int32) (h0 : Heap) (n0 : Nat) (v : Option Value) (h : Heap) (L : List Loc) : Prop := ∃ k1 : ClassId, ∃ nb1 : Addr, v = some (.ref nb1) ∧ Fr n0 L ∧ Keep h0 h [] ∧ h0.size ≤ nb1 ∧ Arv Z h nb1 k1 .byte (1 : Int32) [(.int (x0_.toInt8.toInt32))] (.int (0 : Int32)) ∧ Exa Z h nb1 "[B"
set_option maxRecDepth 65536 in
set_option maxHeartbeats 40000000 in
theorem rmcompress10 (l : Launch) (Z : State) (a0 : Array Value) (hw : ∀ d ∈ tables_1, d.before a0 Z = true) (ws : List Jvm.Cond) (o0_ : Addr) (ko0_ : ClassId) (x0_ : Int32) (h0 : Heap) (n0 : Nat) (O0 : Old Z n0 h0) (ha0 : ¬ ((255 : Int32) < x0_)) (P1 : Arv Z h0 o0_ ko0_ .char (1 : Int32) [(.int x0_)] (.int (0 : Int32))) (P2 : Exa Z h0 o0_ "[C") :
    MetFree l (⟨"java/lang/StringUTF16", "compress", "([CII)[B"⟩ : MethodName) (head1 (Jvm.Cond.code (⟨"java/lang/StringUTF16", "compress", "([CII)[B"⟩ : MethodName) jdk_52_method_16_code 6 (some (.array .byte)) :: ws) ({ frames := 1, cells := 1, slots := 1, locals := 18 } : Room)) (fun a U => a = #[(.ref o0_), (.int (0 : Int32)), (.int (1 : Int32))] ∧ Z.Warmed39 U.vm ∧ U.heap = h0) (fun _ _ _ _ _ => True) (fun _ U o U' => ∃ v L, o = .returned v ∧ Qcompress10 Z o0_ ko0_ x0_ h0 n0 v U'.heap L ∧ FrameEnd U o U' L ({ frames := 1, cells := 1, slots := 1, locals := 18 } : Room).cells ({ frames := 1, cells := 1, slots := 1, locals := 18 } : Room).slots) := by
  refine MetFree.of_bodySF (plainFor_of_name pn_0) hisR ?_
  intro p e s m args below meth c s₁ Bd hml0 hP hK
  obtain ⟨rfl, hZ, hh⟩ := hP
  have hx := Bd.exec
  have hby := Bd.bytes
  have hml : c.maxLocals = 6 := hml0
  have hown : s.vm.findClass "java/lang/StringUTF16" = some m.cls := findClass_of_methodNamed Bd.named
  have hnm := (name_of_methodNamed Bd.named Bd.method).1
  have X0 : Stand p l e ({ frames := 1, cells := 1, slots := 1, locals := 18 } : Room) s m #[(.ref o0_), (.int (0 : Int32)), (.int (1 : Int32))] below meth c s₁ [] 0 0 := Stand.of_body Bd
  have e0 : s₁.heap = h0 := by rw [← hh, Bd.state]; rfl
  have N0 := Fr.nil n0
  have pre0 : ∀ t, Steps p.tables e below (s₁.setTop (mkF m 0 #[.val (.ref o0_), .val (.int (0 : Int32)), .val (.int (1 : Int32)), .unset, .unset, .unset] [])) t → Steps p.tables e below (s₁.setTop (entryFrame m #[(.ref o0_), (.int (0 : Int32)), (.int (1 : Int32))] 6)) t := fun t k => castTop (efcompress10 m o0_) k
  have K0 : Keep h0 h0 [] := Keep.refl _ _
  obtain ⟨T1, h1, k1, X1, e1, E1, A1, Z1, st1⟩ := newPE X0 hx hZ (hw _ (List.mem_of_getElem? (i := 19) rfl)) e0 (g := (mkF m 1 #[.val (.ref o0_), .val (.int (0 : Int32)), .val (.int (1 : Int32)), .unset, .unset, .unset] [(.int (1 : Int32))])) rfl (hb hby d3_1) rfl (by decide) (cap := 1) (by decide) (by decide) (by decide) (by decide) (ad := "[B") (by decide)
  obtain ⟨b1, g1⟩ : ∃ z, z = h0.size := ⟨_, rfl⟩
  rw [← g1] at A1 Z1 st1
  have ge2 : n0 ≤ b1 := Nat.le_trans (Nat.le_trans (Nat.le_of_eq O0.1.symm) O0.2.1) (Nat.le_of_eq g1.symm)
  have sz3 : h0.size ≤ b1 := Nat.le_trans K0.1 (Nat.le_of_eq g1.symm)
  have f4 : Arv Z h1 b1 k1 .byte (1 : Int32) [(.int (0 : Int32))] (.int (0 : Int32)) := (Arv.new A1 (by decide)).pad (pad_rep [] (.int (0 : Int32)) 1)
  have f6 : Arv Z h1 o0_ ko0_ .char (1 : Int32) [(.int x0_)] (.int (0 : Int32)) := P1.ext E1
  have f7 : Exa Z h1 o0_ "[C" := P2.ext E1
  have f8 : Old Z n0 h1 := O0.ext E1
  obtain ⟨_, _, ⟨T5, L5, k5, n5⟩, -, X5, ⟨Lc5, hQ5, l5, y5, z5⟩, st5⟩ := Jvm.LawKit.callS X1 hx (y := (⟨"java/lang/StringUTF16", "compress", "([CI[BII)I"⟩ : MethodName)) hown (mvT hZ (hw _ (List.mem_of_getElem? (i := 20) rfl))) (mvT hZ (hw _ (List.mem_of_getElem? (i := 21) rfl))) (mvT hZ (hw _ (List.mem_of_getElem? (i := 17) rfl))) (mvT hZ (hw _ (List.mem_of_getElem? (i := 22) rfl))) (by decide) (backOf (W := 0) (rmcompress11 l Z a0 hw [] o0_ b1 ko0_ x0_ k1 h1 n0 f8 ha0 f6 f7 f4 Z1 ge2) hZ (hw _ (List.mem_of_getElem? (i := 22) rfl)) (hw _ (List.mem_of_getElem? (i := 17) rfl)) (by decide) (by decide)) (g := (mkF m 9 #[.val (.ref o0_), .val (.int (0 : Int32)), .val (.int (1 : Int32)), .val (.ref b1), .unset, .unset] [(.int (1 : Int32)), (.int (0 : Int32)), (.ref b1), (.int (0 : Int32)), (.ref o0_)])) rfl (by rw [hml]; rfl) (argsL := [(.ref o0_), (.int (0 : Int32)), (.ref b1), (.int (0 : Int32)), (.int (1 : Int32))]) (rest := []) (lenOf pd_0 rfl) rfl (by show 2 * 0 + _ ≤ _; exact Nat.le_of_eq rfl) (hb hby d3_9) (fun _ _ => ⟨rfl, e1, (by decide : 1 + 0 ≤ _), (by decide : 1 + 0 ≤ _)⟩)
  dsimp only [Pt.U, Pt.locs, Pt.cells, Pt.slots] at X5 l5 y5 z5 st5 hQ5
  subst l5 y5 z5
  obtain ⟨h5, e5⟩ : ∃ z, T5.heap = z := ⟨_, rfl⟩
  rw [e5] at hQ5
  obtain ⟨rfl, N5q, K5, g5_0, g5_1⟩ := hQ5
  have N9 := Fr.app N0 N5q
  have pre10 : ∀ t, Steps p.tables e below (T5.setTop (mkF m 58 #[.val (.ref o0_), .val (.int (0 : Int32)), .val (.int (1 : Int32)), .val (.ref b1), .val (.int (1 : Int32)), .unset] [(.ref b1)])) t → Steps p.tables e below (s₁.setTop (entryFrame m #[(.ref o0_), (.int (0 : Int32)), (.int (1 : Int32))] 6)) t := by
    intro t kt
    refine pre0 t ?_
    show Steps p.tables e below (s₁.setTop (mkF m 0 #[.val (.ref o0_), .val (.int (0 : Int32)), .val (.int (1 : Int32)), .unset, .unset, .unset] [])) _
    refine XS.iloadN X0.here hx rfl (hb hby d3_0) rfl ?_
    show Steps p.tables e below (s₁.setTop (mkF m 1 #[.val (.ref o0_), .val (.int (0 : Int32)), .val (.int (1 : Int32)), .unset, .unset, .unset] [(.int (1 : Int32))])) _
    refine st1 _ ?_
    show Steps p.tables e below (T1.setTop (mkF m 3 #[.val (.ref o0_), .val (.int (0 : Int32)), .val (.int (1 : Int32)), .unset, .unset, .unset] [(.ref b1)])) _
    refine XS.astoreN X1.here hx rfl (hb hby d3_3) rfl rfl (l' := #[.val (.ref o0_), .val (.int (0 : Int32)), .val (.int (1 : Int32)), .val (.ref b1), .unset, .unset]) rfl ?_
    show Steps p.tables e below (T1.setTop (mkF m 4 #[.val (.ref o0_), .val (.int (0 : Int32)), .val (.int (1 : Int32)), .val (.ref b1), .unset, .unset] [])) _
    refine XS.aloadN X1.here hx rfl (hb hby d3_4) rfl rfl ?_
    show Steps p.tables e below (T1.setTop (mkF m 5 #[.val (.ref o0_), .val (.int (0 : Int32)), .val (.int (1 : Int32)), .val (.ref b1), .unset, .unset] [(.ref o0_)])) _
    refine XS.iloadN X1.here hx rfl (hb hby d3_5) rfl ?_
    show Steps p.tables e below (T1.setTop (mkF m 6 #[.val (.ref o0_), .val (.int (0 : Int32)), .val (.int (1 : Int32)), .val (.ref b1), .unset, .unset] [(.int (0 : Int32)), (.ref o0_)])) _
    refine XS.aloadN X1.here hx rfl (hb hby d3_6) rfl rfl ?_
    show Steps p.tables e below (T1.setTop (mkF m 7 #[.val (.ref o0_), .val (.int (0 : Int32)), .val (.int (1 : Int32)), .val (.ref b1), .unset, .unset] [(.ref b1), (.int (0 : Int32)), (.ref o0_)])) _
    refine XS.iconst X1.here hx rfl (hb hby d3_7) ?_
    show Steps p.tables e below (T1.setTop (mkF m 8 #[.val (.ref o0_), .val (.int (0 : Int32)), .val (.int (1 : Int32)), .val (.ref b1), .unset, .unset] [(.int (0 : Int32)), (.ref b1), (.int (0 : Int32)), (.ref o0_)])) _
    refine XS.iloadN X1.here hx rfl (hb hby d3_8) rfl ?_
    show Steps p.tables e below (T1.setTop (mkF m 9 #[.val (.ref o0_), .val (.int (0 : Int32)), .val (.int (1 : Int32)), .val (.ref b1), .unset, .unset] [(.int (1 : Int32)), (.int (0 : Int32)), (.ref b1), (.int (0 : Int32)), (.ref o0_)])) _
    refine st5 _ ?_
    show Steps p.tables e below (T5.setTop (mkF m 12 #[.val (.ref o0_), .val (.int (0 : Int32)), .val (.int (1 : Int32)), .val (.ref b1), .unset, .unset] [(.int (1 : Int32))])) _
    refine XS.istore X5.here hx rfl (hb hby d3_12) rfl (l' := #[.val (.ref o0_), .val (.int (0 : Int32)), .val (.int (1 : Int32)), .val (.ref b1), .val (.int (1 : Int32)), .unset]) rfl ?_
    show Steps p.tables e below (T5.setTop (mkF m 14 #[.val (.ref o0_), .val (.int (0 : Int32)), .val (.int (1 : Int32)), .val (.ref b1), .val (.int (1 : Int32)), .unset] [])) _
    refine XS.iload X5.here hx rfl (hb hby d3_14) rfl ?_
    show Steps p.tables e below (T5.setTop (mkF m 16 #[.val (.ref o0_), .val (.int (0 : Int32)), .val (.int (1 : Int32)), .val (.ref b1), .val (.int (1 : Int32)), .unset] [(.int (1 : Int32))])) _
    refine XS.iloadN X5.here hx rfl (hb hby d3_16) rfl ?_
    show Steps p.tables e below (T5.setTop (mkF m 17 #[.val (.ref o0_), .val (.int (0 : Int32)), .val (.int (1 : Int32)), .val (.ref b1), .val (.int (1 : Int32)), .unset] [(.int (1 : Int32)), (.int (1 : Int32))])) _
    refine XS.icmpYes X5.here hx rfl (pc0 := 17) (pc' := 57) rfl (hb hby d3_17) rfl (teq (by decide : (1 : Int32) = (1 : Int32))).1 (by decide) (by decide) ?_
    show Steps p.tables e below (T5.setTop (mkF m 57 #[.val (.ref o0_), .val (.int (0 : Int32)), .val (.int (1 : Int32)), .val (.ref b1), .val (.int (1 : Int32)), .unset] [])) _
    refine XS.aloadN X5.here hx rfl (hb hby d3_57) rfl rfl ?_
    exact kt
  have f12 : Keep h0 h1 [] := K0.ext E1
  have f13 : Keep h0 h5 [] := f12.trans K5 (allS (Or.inr sz3) all0)
  obtain ⟨fs, hr, hrun, hended, hW, hsame⟩ := X5.leave (v := some (.ref b1)) (fun h => by rw [Bd.returns] at h; cases h)
  refine ⟨_, _, pre10 _ (retOut X5 hx Bd.returns rfl (Or.inr (Or.inr (Or.inr (Or.inr ⟨rfl, rfl, rfl⟩)))) (hb hby d3_58) hr), hrun, hended, _, _, rfl, ?_, ⟨_, rfl⟩, hW, hsame.mono (by decide) (by decide)⟩
  show Qcompress10 Z o0_ ko0_ x0_ h0 n0 _ T5.heap _
  rw [e5]
  exact ⟨k1, b1, rfl, N9, f13, sz3, g5_0, g5_1⟩
theorem efcoderFromArrayLen12 (m : MethodId) (o0_ : Addr) : entryFrame m #[(.ref o0_), (.int (1 : Int32))] 2 = mkF m 0 #[.val (.ref o0_), .val (.int (1 : Int32))] [] := by first | (simp [entryFrame, mkF, argsToLocals, Value.category]; done) | rfl
def QcoderFromArrayLen12 (Z : State) (o0_ : Addr) (ko0_ : ClassId) (x0_ : Int32) (h0 : Heap) (n0 : Nat) (v : Option Value) (h : Heap) (L : List Loc) : Prop := v = some (.int (0 : Int32)) ∧ Fr n0 L ∧ h = h0
set_option maxRecDepth 65536 in
set_option maxHeartbeats 40000000 in
theorem rmcoderFromArrayLen12 (l : Launch) (Z : State) (a0 : Array Value) (hw : ∀ d ∈ tables_1, d.before a0 Z = true) (ws : List Jvm.Cond) (o0_ : Addr) (ko0_ : ClassId) (x0_ : Int32) (h0 : Heap) (n0 : Nat) (O0 : Old Z n0 h0) (P0 : Arv Z h0 o0_ ko0_ .byte (1 : Int32) [(.int x0_)] (.int (0 : Int32))) (P1 : Exa Z h0 o0_ "[B") :
    MetFree l (⟨"java/lang/StringUTF16", "coderFromArrayLen", "([BI)B"⟩ : MethodName) (head1 (Jvm.Cond.code (⟨"java/lang/StringUTF16", "coderFromArrayLen", "([BI)B"⟩ : MethodName) jdk_52_method_15_code 2 (some .byte) :: ws) ({ frames := 0, cells := 0, slots := 0, locals := 0 } : Room)) (fun a U => a = #[(.ref o0_), (.int (1 : Int32))] ∧ Z.Warmed39 U.vm ∧ U.heap = h0) (fun _ _ _ _ _ => True) (fun _ U o U' => ∃ v L, o = .returned v ∧ QcoderFromArrayLen12 Z o0_ ko0_ x0_ h0 n0 v U'.heap L ∧ FrameEnd U o U' L ({ frames := 0, cells := 0, slots := 0, locals := 0 } : Room).cells ({ frames := 0, cells := 0, slots := 0, locals := 0 } : Room).slots) := by
  refine MetFree.of_bodySF (plainFor_of_name pn_0) hisR ?_
  intro p e s m args below meth c s₁ Bd hml0 hP hK
  obtain ⟨rfl, hZ, hh⟩ := hP
  have hx := Bd.exec
  have hby := Bd.bytes
  have hml : c.maxLocals = 2 := hml0
  have hown : s.vm.findClass "java/lang/StringUTF16" = some m.cls := findClass_of_methodNamed Bd.named
  have hnm := (name_of_methodNamed Bd.named Bd.method).1
  have X0 : Stand p l e ({ frames := 0, cells := 0, slots := 0, locals := 0 } : Room) s m #[(.ref o0_), (.int (1 : Int32))] below meth c s₁ [] 0 0 := Stand.of_body Bd
  have e0 : s₁.heap = h0 := by rw [← hh, Bd.state]; rfl
  have N0 := Fr.nil n0
  have pre0 : ∀ t, Steps p.tables e below (s₁.setTop (mkF m 0 #[.val (.ref o0_), .val (.int (1 : Int32))] [])) t → Steps p.tables e below (s₁.setTop (entryFrame m #[(.ref o0_), (.int (1 : Int32))] 2)) t := fun t k => castTop (efcoderFromArrayLen12 m o0_) k
  have K0 : Keep h0 h0 [] := Keep.refl _ _
  obtain ⟨c1, r1, q1, s1, z1, y1, G1⟩ := id P0
  have pre2 : ∀ t, Steps p.tables e below (s₁.setTop (mkF m 8 #[.val (.ref o0_), .val (.int (1 : Int32))] [(.int (0 : Int32))])) t → Steps p.tables e below (s₁.setTop (entryFrame m #[(.ref o0_), (.int (1 : Int32))] 2)) t := by
    intro t kt
    refine pre0 t ?_
    show Steps p.tables e below (s₁.setTop (mkF m 0 #[.val (.ref o0_), .val (.int (1 : Int32))] [])) _
    refine XS.iloadN X0.here hx rfl (hb hby d5_0) rfl ?_
    show Steps p.tables e below (s₁.setTop (mkF m 1 #[.val (.ref o0_), .val (.int (1 : Int32))] [(.int (1 : Int32))])) _
    refine XS.aloadN X0.here hx rfl (hb hby d5_1) rfl rfl ?_
    show Steps p.tables e below (s₁.setTop (mkF m 2 #[.val (.ref o0_), .val (.int (1 : Int32))] [(.ref o0_), (.int (1 : Int32))])) _
    refine X0.arraylength hx (by rw [e0]; exact r1.1) (State.isArrayOf_alike hZ.alike r1.2.1) (g := (mkF m 2 #[.val (.ref o0_), .val (.int (1 : Int32))] [(.ref o0_), (.int (1 : Int32))])) rfl rfl (hb hby d5_2) _ ?_
    rw [len_of s1 z1]
    show Steps p.tables e below (s₁.setTop (mkF m 3 #[.val (.ref o0_), .val (.int (1 : Int32))] [(.int (1 : Int32)), (.int (1 : Int32))])) _
    refine XS.isub X0.here hx rfl (hb hby d5_3) rfl ?_
    show Steps p.tables e below (s₁.setTop (mkF m 4 #[.val (.ref o0_), .val (.int (1 : Int32))] [(.int (0 : Int32))])) _
    refine XS.bipush X0.here hx rfl (hb hby d5_4) ?_
    show Steps p.tables e below (s₁.setTop (mkF m 6 #[.val (.ref o0_), .val (.int (1 : Int32))] [(.int (31 : Int32)), (.int (0 : Int32))])) _
    refine XS.iushr X0.here hx rfl (hb hby d5_6) rfl ?_
    show Steps p.tables e below (s₁.setTop (mkF m 7 #[.val (.ref o0_), .val (.int (1 : Int32))] [(.int (0 : Int32))])) _
    refine XS.i2b X0.here hx rfl (hb hby d5_7) rfl ?_
    exact kt
  obtain ⟨fs, hr, hrun, hended, hW, hsame⟩ := X0.leave (v := some (.int (0 : Int32))) (fun h => by rw [Bd.returns] at h; cases h)
  refine ⟨_, _, pre2 _ (retN X0 hx (t := .byte) Bd.returns (by simp) (hb hby d5_8) hr), hrun, hended, _, _, rfl, ?_, ⟨_, rfl⟩, hW, hsame.mono (by decide) (by decide)⟩
  show QcoderFromArrayLen12 Z o0_ ko0_ x0_ h0 n0 _ s₁.heap _
  rw [e0]
  exact ⟨rfl, N0, rfl⟩
theorem efinit9 (m : MethodId) (o0_ : Addr) (o1_ : Addr) : entryFrame m #[(.ref o0_), (.ref o1_), (.int (0 : Int32)), (.int (1 : Int32)), .null] 6 = mkF m 0 #[.val (.ref o0_), .val (.ref o1_), .val (.int (0 : Int32)), .val (.int (1 : Int32)), .val .null, .unset] [] := by first | (simp [entryFrame, mkF, argsToLocals, Value.category]; done) | rfl
def Qinit9 (Z : State) (o0_ : Addr) (o1_ : Addr) (ko1_ : ClassId) (x0_ : Int32) (x1_ : Int32) (h0 : Heap) (n0 : Nat) (v : Option Value) (h : Heap) (L : List Loc) : Prop := ∃ k1_3 : ClassId, ∃ nnb1_3 : Addr, v = none ∧ Fr n0 L ∧ Keep h0 h [o0_] ∧ h0.size ≤ nnb1_3 ∧ Exa Z h o0_ "java/lang/String" ∧ Fld Z h o0_ "java/lang/String" "coder" "B" (.int (0 : Int32)) ∧ Fld Z h o0_ "java/lang/String" "value" "[B" (.ref nnb1_3) ∧ Arv Z h nnb1_3 k1_3 .byte (1 : Int32) [(.int (x0_.toInt8.toInt32))] (.int (0 : Int32)) ∧ Exa Z h nnb1_3 "[B"
set_option maxRecDepth 65536 in
set_option maxHeartbeats 40000000 in
theorem rminit9 (l : Launch) (Z : State) (a0 : Array Value) (hw : ∀ d ∈ tables_1, d.before a0 Z = true) (ws : List Jvm.Cond) (o0_ : Addr) (o1_ : Addr) (ko1_ : ClassId) (x0_ : Int32) (x1_ : Int32) (h0 : Heap) (n0 : Nat) (O0 : Old Z n0 h0) (ha0 : ¬ ((255 : Int32) < x0_)) (P1 : Exa Z h0 o0_ "java/lang/String") (P2 : Fld Z h0 o0_ "java/lang/String" "coder" "B" (.int (0 : Int32))) (P3 : Fld Z h0 o0_ "java/lang/String" "value" "[B" .null) (P4 : Arv Z h0 o1_ ko1_ .char (1 : Int32) [(.int x0_)] (.int (0 : Int32))) (P5 : Exa Z h0 o1_ "[C") (P6 : ¬ (x1_ = (0 : Int32))) (P7 : Sta Z Z.heap "java/lang/String" "COMPACT_STRINGS" "Z" (.int x1_)) (P8 : n0 ≤ o0_) :
    MetFree l (⟨"java/lang/String", "<init>", "([CIILjava/lang/Void;)V"⟩ : MethodName) (head1 (Jvm.Cond.code (⟨"java/lang/String", "<init>", "([CIILjava/lang/Void;)V"⟩ : MethodName) jdk_42_method_149_code 6 none :: ws) ({ frames := 2, cells := 1, slots := 1, locals := 35 } : Room)) (fun a U => a = #[(.ref o0_), (.ref o1_), (.int (0 : Int32)), (.int (1 : Int32)), .null] ∧ Z.Warmed39 U.vm ∧ U.heap = h0) (fun _ _ _ _ _ => True) (fun _ U o U' => ∃ v L, o = .returned v ∧ Qinit9 Z o0_ o1_ ko1_ x0_ x1_ h0 n0 v U'.heap L ∧ FrameEnd U o U' L ({ frames := 2, cells := 1, slots := 1, locals := 35 } : Room).cells ({ frames := 2, cells := 1, slots := 1, locals := 35 } : Room).slots) := by
  refine MetFree.of_bodySF (plainFor_of_name pn_1) hisR ?_
  intro p e s m args below meth c s₁ Bd hml0 hP hK
  obtain ⟨rfl, hZ, hh⟩ := hP
  have hx := Bd.exec
  have hby := Bd.bytes
  have hml : c.maxLocals = 6 := hml0
  have hown : s.vm.findClass "java/lang/String" = some m.cls := findClass_of_methodNamed Bd.named
  have hnm := (name_of_methodNamed Bd.named Bd.method).1
  have X0 : Stand p l e ({ frames := 2, cells := 1, slots := 1, locals := 35 } : Room) s m #[(.ref o0_), (.ref o1_), (.int (0 : Int32)), (.int (1 : Int32)), .null] below meth c s₁ [] 0 0 := Stand.of_body Bd
  have e0 : s₁.heap = h0 := by rw [← hh, Bd.state]; rfl
  have N0 := Fr.nil n0
  have pre0 : ∀ t, Steps p.tables e below (s₁.setTop (mkF m 0 #[.val (.ref o0_), .val (.ref o1_), .val (.int (0 : Int32)), .val (.int (1 : Int32)), .val .null, .unset] [])) t → Steps p.tables e below (s₁.setTop (entryFrame m #[(.ref o0_), (.ref o1_), (.int (0 : Int32)), (.int (1 : Int32)), .null] 6)) t := fun t k => castTop (efinit9 m o0_ o1_) k
  have K0 : Keep h0 h0 [o0_] := Keep.refl _ _
  obtain ⟨T1, X1, e1, st1⟩ := initO X0 hx hZ hown (hw _ (List.mem_of_getElem? (i := 11) rfl)) (hw _ (List.mem_of_getElem? (i := 12) rfl)) (hw _ (List.mem_of_getElem? (i := 13) rfl)) e0 (g := (mkF m 1 #[.val (.ref o0_), .val (.ref o1_), .val (.int (0 : Int32)), .val (.int (1 : Int32)), .val .null, .unset] [(.ref o0_)])) rfl (by rw [hml]; rfl) rfl (hb hby d2_1) (by decide) (W := 0) (by show 2 * 0 + _ ≤ _; exact Nat.le_of_eq rfl) (by decide)
  obtain ⟨T2, X2, e2, st2⟩ := getS2 X1 hx hZ hown (host := "") (Or.inl (hw _ (List.mem_of_getElem? (i := 14) rfl))) Via.refl e1 (P7.ext O0.2) (g := (mkF m 27 #[.val (.ref o0_), .val (.ref o1_), .val (.int (0 : Int32)), .val (.int (1 : Int32)), .val .null, .unset] [])) rfl (hb hby d2_27)
  obtain ⟨_, _, ⟨T3, L3, k3, n3⟩, -, X3, ⟨Lc3, hQ3, l3, y3, z3⟩, st3⟩ := Jvm.LawKit.callS X2 hx (y := (⟨"java/lang/StringUTF16", "compress", "([CII)[B"⟩ : MethodName)) hown (mvT hZ (hw _ (List.mem_of_getElem? (i := 15) rfl))) (mvT hZ (hw _ (List.mem_of_getElem? (i := 16) rfl))) (mvT hZ (hw _ (List.mem_of_getElem? (i := 17) rfl))) (mvT hZ (hw _ (List.mem_of_getElem? (i := 18) rfl))) (by decide) (backOf (W := 0) (rmcompress10 l Z a0 hw [] o1_ ko1_ x0_ h0 n0 O0 ha0 P4 P5) hZ (hw _ (List.mem_of_getElem? (i := 18) rfl)) (hw _ (List.mem_of_getElem? (i := 17) rfl)) (by decide) (by decide)) (g := (mkF m 36 #[.val (.ref o0_), .val (.ref o1_), .val (.int (0 : Int32)), .val (.int (1 : Int32)), .val .null, .unset] [(.int (1 : Int32)), (.int (0 : Int32)), (.ref o1_)])) rfl (by rw [hml]; rfl) (argsL := [(.ref o1_), (.int (0 : Int32)), (.int (1 : Int32))]) (rest := []) (lenOf pd_1 rfl) rfl (by show 2 * 0 + _ ≤ _; exact Nat.le_of_eq rfl) (hb hby d2_36) (fun _ _ => ⟨rfl, e2, (by decide : 0 + 1 ≤ _), (by decide : 0 + 1 ≤ _)⟩)
  dsimp only [Pt.U, Pt.locs, Pt.cells, Pt.slots] at X3 l3 y3 z3 st3 hQ3
  subst l3 y3 z3
  obtain ⟨h3, e3⟩ : ∃ z, T3.heap = z := ⟨_, rfl⟩
  rw [e3] at hQ3
  obtain ⟨k1_3, nb1_3, rfl, N3q, K3, sznb1_3, g3_0, g3_1⟩ := hQ3
  have N4 := Fr.app N0 N3q
  have ge5 : n0 ≤ nb1_3 := Nat.le_trans (Nat.le_trans (Nat.le_of_eq O0.1.symm) O0.2.1) sznb1_3
  have sz6 : h0.size ≤ nb1_3 := Nat.le_trans K0.1 sznb1_3
  have f8 : Old Z n0 h3 := O0.keep K3 all0
  obtain ⟨_, _, ⟨T7, L7, k7, n7⟩, -, X7, ⟨Lc7, hQ7, l7, y7, z7⟩, st7⟩ := Jvm.LawKit.callS X3 hx (y := (⟨"java/lang/StringUTF16", "coderFromArrayLen", "([BI)B"⟩ : MethodName)) hown (mvT hZ (hw _ (List.mem_of_getElem? (i := 23) rfl))) (mvT hZ (hw _ (List.mem_of_getElem? (i := 24) rfl))) (mvT hZ (hw _ (List.mem_of_getElem? (i := 17) rfl))) (mvT hZ (hw _ (List.mem_of_getElem? (i := 25) rfl))) (by decide) (backOf (W := 1) (rmcoderFromArrayLen12 l Z a0 hw [] nb1_3 k1_3 (x0_.toInt8.toInt32) h3 n0 f8 g3_0 g3_1) hZ (hw _ (List.mem_of_getElem? (i := 25) rfl)) (hw _ (List.mem_of_getElem? (i := 17) rfl)) (by decide) (by decide)) (g := (mkF m 45 #[.val (.ref o0_), .val (.ref o1_), .val (.int (0 : Int32)), .val (.int (1 : Int32)), .val .null, .val (.ref nb1_3)] [(.int (1 : Int32)), (.ref nb1_3), (.ref o0_)])) rfl (by rw [hml]; rfl) (argsL := [(.ref nb1_3), (.int (1 : Int32))]) (rest := [(.ref o0_)]) (lenOf pd_2 rfl) rfl (by show 2 * 0 + _ ≤ _; exact Nat.le_of_eq rfl) (hb hby d2_45) (fun _ _ => ⟨rfl, e3, (by decide : 1 + 0 ≤ _), (by decide : 1 + 0 ≤ _)⟩)
  dsimp only [Pt.U, Pt.locs, Pt.cells, Pt.slots] at X7 l7 y7 z7 st7 hQ7
  subst l7 y7 z7
  obtain ⟨h7, e7⟩ : ∃ z, T7.heap = z := ⟨_, rfl⟩
  rw [e7] at hQ7
  obtain ⟨rfl, N7q, hh7⟩ := hQ7
  have N9 := Fr.app N4 N7q
  have e7' : T7.heap = h3 := e7.trans hh7
  have f10 : Fld Z h3 o0_ "java/lang/String" "coder" "B" (.int (0 : Int32)) := P2.keep K3 nin0
  have f11 : Exa Z h3 o0_ "java/lang/String" := P1.keep K3
  obtain ⟨T12, h12, X12, e12, W12, st12⟩ := putF X7 hx hZ hown (host := "") (Or.inl (hw _ (List.mem_of_getElem? (i := 26) rfl))) Via.refl e7' f10 f11 (Or.inr ⟨(hw _ (List.mem_of_getElem? (i := 27) rfl)), rfl, hnm⟩) (hw _ (List.mem_of_getElem? (i := 2) rfl)) (ty := .byte) (by decide) rfl rfl (g := (mkF m 48 #[.val (.ref o0_), .val (.ref o1_), .val (.int (0 : Int32)), .val (.int (1 : Int32)), .val .null, .val (.ref nb1_3)] [(.int (0 : Int32)), (.ref o0_)])) rfl rfl (hb hby d2_48)
  have N13 := Fr.snoc X12 N9 P8
  have f14 : Fld Z h12 o0_ "java/lang/String" "coder" "B" (.int (0 : Int32)) := f10.same W12
  have f15 : Fld Z h3 o0_ "java/lang/String" "value" "[B" .null := P3.keep K3 nin0
  have f16 : Fld Z h12 o0_ "java/lang/String" "value" "[B" .null := f15.other W12 (Or.inr (slot_ne (Or.inr (hw _ (List.mem_of_getElem? (i := 29) rfl))) (Or.inr (hw _ (List.mem_of_getElem? (i := 27) rfl))) (by decide) (t := (.array .byte)) (t' := .byte) (by decide) (by decide)))
  have f17 : Exa Z h12 o0_ "java/lang/String" := f11.wr W12
  obtain ⟨T18, h18, X18, e18, W18, st18⟩ := putF X12 hx hZ hown (host := "") (Or.inl (hw _ (List.mem_of_getElem? (i := 28) rfl))) Via.refl e12 f16 f17 (Or.inr ⟨(hw _ (List.mem_of_getElem? (i := 29) rfl)), rfl, hnm⟩) (hw _ (List.mem_of_getElem? (i := 2) rfl)) (ty := (.array .byte)) (by decide) rfl rfl (g := (mkF m 54 #[.val (.ref o0_), .val (.ref o1_), .val (.int (0 : Int32)), .val (.int (1 : Int32)), .val .null, .val (.ref nb1_3)] [(.ref nb1_3), (.ref o0_)])) rfl rfl (hb hby d2_54)
  have N19 := Fr.snoc X18 N13 P8
  have f20 : Fld Z h18 o0_ "java/lang/String" "value" "[B" (.ref nb1_3) := f16.same W18
  have pre21 : ∀ t, Steps p.tables e below (T18.setTop (mkF m 57 #[.val (.ref o0_), .val (.ref o1_), .val (.int (0 : Int32)), .val (.int (1 : Int32)), .val .null, .val (.ref nb1_3)] [])) t → Steps p.tables e below (s₁.setTop (entryFrame m #[(.ref o0_), (.ref o1_), (.int (0 : Int32)), (.int (1 : Int32)), .null] 6)) t := by
    intro t kt
    refine pre0 t ?_
    show Steps p.tables e below (s₁.setTop (mkF m 0 #[.val (.ref o0_), .val (.ref o1_), .val (.int (0 : Int32)), .val (.int (1 : Int32)), .val .null, .unset] [])) _
    refine XS.aloadN X0.here hx rfl (hb hby d2_0) rfl rfl ?_
    show Steps p.tables e below (s₁.setTop (mkF m 1 #[.val (.ref o0_), .val (.ref o1_), .val (.int (0 : Int32)), .val (.int (1 : Int32)), .val .null, .unset] [(.ref o0_)])) _
    refine st1 _ ?_
    show Steps p.tables e below (T1.setTop (mkF m 4 #[.val (.ref o0_), .val (.ref o1_), .val (.int (0 : Int32)), .val (.int (1 : Int32)), .val .null, .unset] [])) _
    refine XS.iloadN X1.here hx rfl (hb hby d2_4) rfl ?_
    show Steps p.tables e below (T1.setTop (mkF m 5 #[.val (.ref o0_), .val (.ref o1_), .val (.int (0 : Int32)), .val (.int (1 : Int32)), .val .null, .unset] [(.int (1 : Int32))])) _
    refine XS.ifYes X1.here hx rfl (pc0 := 5) (pc' := 27) rfl (hb hby d2_5) rfl ((if0 _ _).trans (feq (by decide : ¬ ((1 : Int32) = (0 : Int32)))).2) (by decide) (by decide) ?_
    show Steps p.tables e below (T1.setTop (mkF m 27 #[.val (.ref o0_), .val (.ref o1_), .val (.int (0 : Int32)), .val (.int (1 : Int32)), .val .null, .unset] [])) _
    refine st2 _ ?_
    show Steps p.tables e below (T2.setTop (mkF m 30 #[.val (.ref o0_), .val (.ref o1_), .val (.int (0 : Int32)), .val (.int (1 : Int32)), .val .null, .unset] [(.int x1_)])) _
    refine XS.ifNo X2.here hx rfl (hb hby d2_30) rfl ((if0 _ _).trans (feq P6).1) ?_
    show Steps p.tables e below (T2.setTop (mkF m 33 #[.val (.ref o0_), .val (.ref o1_), .val (.int (0 : Int32)), .val (.int (1 : Int32)), .val .null, .unset] [])) _
    refine XS.aloadN X2.here hx rfl (hb hby d2_33) rfl rfl ?_
    show Steps p.tables e below (T2.setTop (mkF m 34 #[.val (.ref o0_), .val (.ref o1_), .val (.int (0 : Int32)), .val (.int (1 : Int32)), .val .null, .unset] [(.ref o1_)])) _
    refine XS.iloadN X2.here hx rfl (hb hby d2_34) rfl ?_
    show Steps p.tables e below (T2.setTop (mkF m 35 #[.val (.ref o0_), .val (.ref o1_), .val (.int (0 : Int32)), .val (.int (1 : Int32)), .val .null, .unset] [(.int (0 : Int32)), (.ref o1_)])) _
    refine XS.iloadN X2.here hx rfl (hb hby d2_35) rfl ?_
    show Steps p.tables e below (T2.setTop (mkF m 36 #[.val (.ref o0_), .val (.ref o1_), .val (.int (0 : Int32)), .val (.int (1 : Int32)), .val .null, .unset] [(.int (1 : Int32)), (.int (0 : Int32)), (.ref o1_)])) _
    refine st3 _ ?_
    show Steps p.tables e below (T3.setTop (mkF m 39 #[.val (.ref o0_), .val (.ref o1_), .val (.int (0 : Int32)), .val (.int (1 : Int32)), .val .null, .unset] [(.ref nb1_3)])) _
    refine XS.astore X3.here hx rfl (hb hby d2_39) rfl rfl (l' := #[.val (.ref o0_), .val (.ref o1_), .val (.int (0 : Int32)), .val (.int (1 : Int32)), .val .null, .val (.ref nb1_3)]) rfl ?_
    show Steps p.tables e below (T3.setTop (mkF m 41 #[.val (.ref o0_), .val (.ref o1_), .val (.int (0 : Int32)), .val (.int (1 : Int32)), .val .null, .val (.ref nb1_3)] [])) _
    refine XS.aloadN X3.here hx rfl (hb hby d2_41) rfl rfl ?_
    show Steps p.tables e below (T3.setTop (mkF m 42 #[.val (.ref o0_), .val (.ref o1_), .val (.int (0 : Int32)), .val (.int (1 : Int32)), .val .null, .val (.ref nb1_3)] [(.ref o0_)])) _
    refine XS.aload X3.here hx rfl (hb hby d2_42) rfl rfl ?_
    show Steps p.tables e below (T3.setTop (mkF m 44 #[.val (.ref o0_), .val (.ref o1_), .val (.int (0 : Int32)), .val (.int (1 : Int32)), .val .null, .val (.ref nb1_3)] [(.ref nb1_3), (.ref o0_)])) _
    refine XS.iloadN X3.here hx rfl (hb hby d2_44) rfl ?_
    show Steps p.tables e below (T3.setTop (mkF m 45 #[.val (.ref o0_), .val (.ref o1_), .val (.int (0 : Int32)), .val (.int (1 : Int32)), .val .null, .val (.ref nb1_3)] [(.int (1 : Int32)), (.ref nb1_3), (.ref o0_)])) _
    refine st7 _ ?_
    show Steps p.tables e below (T7.setTop (mkF m 48 #[.val (.ref o0_), .val (.ref o1_), .val (.int (0 : Int32)), .val (.int (1 : Int32)), .val .null, .val (.ref nb1_3)] [(.int (0 : Int32)), (.ref o0_)])) _
    refine st12 _ ?_
    show Steps p.tables e below (T12.setTop (mkF m 51 #[.val (.ref o0_), .val (.ref o1_), .val (.int (0 : Int32)), .val (.int (1 : Int32)), .val .null, .val (.ref nb1_3)] [])) _
    refine XS.aloadN X12.here hx rfl (hb hby d2_51) rfl rfl ?_
    show Steps p.tables e below (T12.setTop (mkF m 52 #[.val (.ref o0_), .val (.ref o1_), .val (.int (0 : Int32)), .val (.int (1 : Int32)), .val .null, .val (.ref nb1_3)] [(.ref o0_)])) _
    refine XS.aload X12.here hx rfl (hb hby d2_52) rfl rfl ?_
    show Steps p.tables e below (T12.setTop (mkF m 54 #[.val (.ref o0_), .val (.ref o1_), .val (.int (0 : Int32)), .val (.int (1 : Int32)), .val .null, .val (.ref nb1_3)] [(.ref nb1_3), (.ref o0_)])) _
    refine st18 _ ?_
    exact kt
  have f23 : Keep h0 h3 [o0_] := K0.trans K3 all0
  have f24 : Keep h0 h12 [o0_] := f23.wr W12 (Or.inl (List.mem_of_getElem? (i := 0) rfl))
  have f25 : Keep h0 h18 [o0_] := f24.wr W18 (Or.inl (List.mem_of_getElem? (i := 0) rfl))
  have f26 : Exa Z h18 o0_ "java/lang/String" := f17.wr W18
  have f27 : Fld Z h18 o0_ "java/lang/String" "coder" "B" (.int (0 : Int32)) := f14.other W18 (Or.inr (slot_ne (Or.inr (hw _ (List.mem_of_getElem? (i := 27) rfl))) (Or.inr (hw _ (List.mem_of_getElem? (i := 29) rfl))) (by decide) (t := .byte) (t' := (.array .byte)) (by decide) (by decide)))
  have ne29 : o0_ ≠ nb1_3 := Nat.ne_of_lt (Nat.lt_of_lt_of_le P1.lt sznb1_3)
  have f28 : Arv Z h12 nb1_3 k1_3 .byte (1 : Int32) [(.int (x0_.toInt8.toInt32))] (.int (0 : Int32)) := g3_0.other W12 (Ne.symm ne29)
  have f30 : Arv Z h18 nb1_3 k1_3 .byte (1 : Int32) [(.int (x0_.toInt8.toInt32))] (.int (0 : Int32)) := f28.other W18 (Ne.symm ne29)
  have f31 : Exa Z h12 nb1_3 "[B" := g3_1.wr W12
  have f32 : Exa Z h18 nb1_3 "[B" := f31.wr W18
  obtain ⟨fs, hr, hrun, hended, hW, hsame⟩ := X18.leave (v := none) (fun _ => rfl)
  refine ⟨_, _, pre21 _ (X18.returnOut hx Bd.returns (hb hby d2_57) hr), hrun, hended, _, _, rfl, ?_, ⟨_, rfl⟩, hW, hsame.mono (by decide) (by decide)⟩
  show Qinit9 Z o0_ o1_ ko1_ x0_ x1_ h0 n0 _ T18.heap _
  rw [e18]
  exact ⟨k1_3, nb1_3, rfl, N19, f25, sz6, f26, f27, f20, f30, f32⟩
theorem efinit7 (m : MethodId) (o0_ : Addr) (o1_ : Addr) : entryFrame m #[(.ref o0_), (.ref o1_)] 2 = mkF m 0 #[.val (.ref o0_), .val (.ref o1_)] [] := by first | (simp [entryFrame, mkF, argsToLocals, Value.category]; done) | rfl
def Qinit7 (Z : State) (o0_ : Addr) (o1_ : Addr) (ko1_ : ClassId) (x0_ : Int32) (x1_ : Int32) (h0 : Heap) (n0 : Nat) (v : Option Value) (h : Heap) (L : List Loc) : Prop := ∃ k1_3_2 : ClassId, ∃ nnnb1_3_2 : Addr, v = none ∧ Fr n0 L ∧ Keep h0 h [o0_] ∧ h0.size ≤ nnnb1_3_2 ∧ Exa Z h o0_ "java/lang/String" ∧ Fld Z h o0_ "java/lang/String" "coder" "B" (.int (0 : Int32)) ∧ Fld Z h o0_ "java/lang/String" "value" "[B" (.ref nnnb1_3_2) ∧ Arv Z h nnnb1_3_2 k1_3_2 .byte (1 : Int32) [(.int (x0_.toInt8.toInt32))] (.int (0 : Int32)) ∧ Exa Z h nnnb1_3_2 "[B"
set_option maxRecDepth 65536 in
set_option maxHeartbeats 40000000 in
theorem rminit7 (l : Launch) (Z : State) (a0 : Array Value) (hw : ∀ d ∈ tables_1, d.before a0 Z = true) (ws : List Jvm.Cond) (o0_ : Addr) (o1_ : Addr) (ko1_ : ClassId) (x0_ : Int32) (x1_ : Int32) (h0 : Heap) (n0 : Nat) (O0 : Old Z n0 h0) (ha0 : ¬ ((255 : Int32) < x0_)) (P1 : Exa Z h0 o0_ "java/lang/String") (P2 : Fld Z h0 o0_ "java/lang/String" "coder" "B" (.int (0 : Int32))) (P3 : Fld Z h0 o0_ "java/lang/String" "value" "[B" .null) (P4 : Arv Z h0 o1_ ko1_ .char (1 : Int32) [(.int x0_)] (.int (0 : Int32))) (P5 : Exa Z h0 o1_ "[C") (P6 : ¬ (x1_ = (0 : Int32))) (P7 : Sta Z Z.heap "java/lang/String" "COMPACT_STRINGS" "Z" (.int x1_)) (P8 : n0 ≤ o0_) :
    MetFree l (⟨"java/lang/String", "<init>", "([C)V"⟩ : MethodName) (head1 (Jvm.Cond.code (⟨"java/lang/String", "<init>", "([C)V"⟩ : MethodName) jdk_42_method_3_code 2 none :: ws) ({ frames := 3, cells := 1, slots := 1, locals := 52 } : Room)) (fun a U => a = #[(.ref o0_), (.ref o1_)] ∧ Z.Warmed39 U.vm ∧ U.heap = h0) (fun _ _ _ _ _ => True) (fun _ U o U' => ∃ v L, o = .returned v ∧ Qinit7 Z o0_ o1_ ko1_ x0_ x1_ h0 n0 v U'.heap L ∧ FrameEnd U o U' L ({ frames := 3, cells := 1, slots := 1, locals := 52 } : Room).cells ({ frames := 3, cells := 1, slots := 1, locals := 52 } : Room).slots) := by
  refine MetFree.of_bodySF (plainFor_of_name pn_1) hisR ?_
  intro p e s m args below meth c s₁ Bd hml0 hP hK
  obtain ⟨rfl, hZ, hh⟩ := hP
  have hx := Bd.exec
  have hby := Bd.bytes
  have hml : c.maxLocals = 2 := hml0
  have hown : s.vm.findClass "java/lang/String" = some m.cls := findClass_of_methodNamed Bd.named
  have hnm := (name_of_methodNamed Bd.named Bd.method).1
  have X0 : Stand p l e ({ frames := 3, cells := 1, slots := 1, locals := 52 } : Room) s m #[(.ref o0_), (.ref o1_)] below meth c s₁ [] 0 0 := Stand.of_body Bd
  have e0 : s₁.heap = h0 := by rw [← hh, Bd.state]; rfl
  have N0 := Fr.nil n0
  have pre0 : ∀ t, Steps p.tables e below (s₁.setTop (mkF m 0 #[.val (.ref o0_), .val (.ref o1_)] [])) t → Steps p.tables e below (s₁.setTop (entryFrame m #[(.ref o0_), (.ref o1_)] 2)) t := fun t k => castTop (efinit7 m o0_ o1_) k
  have K0 : Keep h0 h0 [o0_] := Keep.refl _ _
  obtain ⟨c1, r1, q1, s1, z1, y1, G1⟩ := id P4
  obtain ⟨_, _, ⟨T2, L2, k2, n2⟩, -, X2, ⟨Lc2, hQ2, l2, y2, z2⟩, st2⟩ := X0.specialBack hx (y := (⟨"java/lang/String", "<init>", "([CIILjava/lang/Void;)V"⟩ : MethodName)) rfl hown (mvT hZ (hw _ (List.mem_of_getElem? (i := 7) rfl))) (mvT hZ (hw _ (List.mem_of_getElem? (i := 8) rfl))) (mvT hZ (hw _ (List.mem_of_getElem? (i := 10) rfl))) (by decide) (backOf (W := 0) (rminit9 l Z a0 hw [] o0_ o1_ ko1_ x0_ x1_ h0 n0 O0 ha0 P1 P2 P3 P4 P5 P6 P7 P8) hZ (hw _ (List.mem_of_getElem? (i := 10) rfl)) (hw _ (List.mem_of_getElem? (i := 3) rfl)) (by decide) (by decide)) (g := (mkF m 6 #[.val (.ref o0_), .val (.ref o1_)] [.null, (.int (1 : Int32)), (.int (0 : Int32)), (.ref o1_), (.ref o0_)])) rfl (by rw [hml]; rfl) (Steps.refl _) (a := o0_) (argsL := [(.ref o1_), (.int (0 : Int32)), (.int (1 : Int32)), .null]) (rest := []) (lenOf pd_3 rfl) rfl (by show 2 * 0 + _ ≤ _; exact Nat.le_of_eq rfl) (hb hby d1_6) (fun _ _ => ⟨rfl, e0, (by decide : 0 + 1 ≤ _), (by decide : 0 + 1 ≤ _)⟩)
  dsimp only [Pt.U, Pt.locs, Pt.cells, Pt.slots] at X2 l2 y2 z2 st2 hQ2
  subst l2 y2 z2
  obtain ⟨h2, e2⟩ : ∃ z, T2.heap = z := ⟨_, rfl⟩
  rw [e2] at hQ2
  obtain ⟨k1_3_2, nnb1_3_2, rfl, N2q, K2, sznnb1_3_2, g2_0, g2_1, g2_2, g2_3, g2_4⟩ := hQ2
  have N3 := Fr.app N0 N2q
  have ge4 : n0 ≤ nnb1_3_2 := Nat.le_trans (Nat.le_trans (Nat.le_of_eq O0.1.symm) O0.2.1) sznnb1_3_2
  have sz5 : h0.size ≤ nnb1_3_2 := Nat.le_trans K0.1 sznnb1_3_2
  have pre6 : ∀ t, Steps p.tables e below (T2.setTop (mkF m 9 #[.val (.ref o0_), .val (.ref o1_)] [])) t → Steps p.tables e below (s₁.setTop (entryFrame m #[(.ref o0_), (.ref o1_)] 2)) t := by
    intro t kt
    refine pre0 t ?_
    show Steps p.tables e below (s₁.setTop (mkF m 0 #[.val (.ref o0_), .val (.ref o1_)] [])) _
    refine XS.aloadN X0.here hx rfl (hb hby d1_0) rfl rfl ?_
    show Steps p.tables e below (s₁.setTop (mkF m 1 #[.val (.ref o0_), .val (.ref o1_)] [(.ref o0_)])) _
    refine XS.aloadN X0.here hx rfl (hb hby d1_1) rfl rfl ?_
    show Steps p.tables e below (s₁.setTop (mkF m 2 #[.val (.ref o0_), .val (.ref o1_)] [(.ref o1_), (.ref o0_)])) _
    refine XS.iconst X0.here hx rfl (hb hby d1_2) ?_
    show Steps p.tables e below (s₁.setTop (mkF m 3 #[.val (.ref o0_), .val (.ref o1_)] [(.int (0 : Int32)), (.ref o1_), (.ref o0_)])) _
    refine XS.aloadN X0.here hx rfl (hb hby d1_3) rfl rfl ?_
    show Steps p.tables e below (s₁.setTop (mkF m 4 #[.val (.ref o0_), .val (.ref o1_)] [(.ref o1_), (.int (0 : Int32)), (.ref o1_), (.ref o0_)])) _
    refine X0.arraylength hx (by rw [e0]; exact r1.1) (State.isArrayOf_alike hZ.alike r1.2.1) (g := (mkF m 4 #[.val (.ref o0_), .val (.ref o1_)] [(.ref o1_), (.int (0 : Int32)), (.ref o1_), (.ref o0_)])) rfl rfl (hb hby d1_4) _ ?_
    rw [len_of s1 z1]
    show Steps p.tables e below (s₁.setTop (mkF m 5 #[.val (.ref o0_), .val (.ref o1_)] [(.int (1 : Int32)), (.int (0 : Int32)), (.ref o1_), (.ref o0_)])) _
    refine XS.aconstNull X0.here hx rfl (hb hby d1_5) ?_
    show Steps p.tables e below (s₁.setTop (mkF m 6 #[.val (.ref o0_), .val (.ref o1_)] [.null, (.int (1 : Int32)), (.int (0 : Int32)), (.ref o1_), (.ref o0_)])) _
    refine st2.trans ?_
    exact kt
  have f8 : Keep h0 h2 [o0_] := K0.trans K2 (allS (Or.inl (List.mem_of_getElem? (i := 0) rfl)) all0)
  obtain ⟨fs, hr, hrun, hended, hW, hsame⟩ := X2.leave (v := none) (fun _ => rfl)
  refine ⟨_, _, pre6 _ (X2.returnOut hx Bd.returns (hb hby d1_9) hr), hrun, hended, _, _, rfl, ?_, ⟨_, rfl⟩, hW, hsame.mono (by decide) (by decide)⟩
  show Qinit7 Z o0_ o1_ ko1_ x0_ x1_ h0 n0 _ T2.heap _
  rw [e2]
  exact ⟨k1_3_2, nnb1_3_2, rfl, N3, f8, sz5, g2_0, g2_1, g2_2, g2_3, g2_4⟩
theorem d6_0 : decode prog_9_method_1_code 0 = .ok (.aload_n 0, 1) := by decide +kernel
theorem d6_1 : decode prog_9_method_1_code 1 = .ok (.invokespecial 1, 3) := by decide +kernel
theorem d7_0 : decode jdk_30_method_1_code 0 = .ok (.aload_n 0, 1) := by decide +kernel
theorem d7_1 : decode jdk_30_method_1_code 1 = .ok (.invokespecial 1, 3) := by decide +kernel
theorem d7_4 : decode jdk_30_method_1_code 4 = .ok (.return_, 1) := by decide +kernel
theorem pn_2 : plainName "java/lang/Record" = true := by first | (simp [plainName, overriddenIn]; done) | decide +kernel
theorem efinit14 (m : MethodId) (o0_ : Addr) : entryFrame m #[(.ref o0_)] 1 = mkF m 0 #[.val (.ref o0_)] [] := by first | (simp [entryFrame, mkF, argsToLocals, Value.category]; done) | rfl
def Qinit14 (Z : State) (o0_ : Addr) (h0 : Heap) (n0 : Nat) (v : Option Value) (h : Heap) (L : List Loc) : Prop := v = none ∧ Fr n0 L ∧ h = h0
set_option maxRecDepth 65536 in
set_option maxHeartbeats 40000000 in
theorem rminit14 (l : Launch) (Z : State) (a0 : Array Value) (hw : ∀ d ∈ tables_1, d.before a0 Z = true) (ws : List Jvm.Cond) (o0_ : Addr) (h0 : Heap) (n0 : Nat) (O0 : Old Z n0 h0) (P0 : Exa Z h0 o0_ "com/example/zenodotus/zenodotus/engine/FamilyStatus") (P1 : Fld Z h0 o0_ "com/example/zenodotus/zenodotus/engine/FamilyStatus" "family" "Ljava/lang/String;" .null) (P2 : Fld Z h0 o0_ "com/example/zenodotus/zenodotus/engine/FamilyStatus" "storeFiles" "I" (.int (0 : Int32))) (P3 : Fld Z h0 o0_ "com/example/zenodotus/zenodotus/engine/FamilyStatus" "storeCells" "J" (.long (0 : Int64))) (P4 : Fld Z h0 o0_ "com/example/zenodotus/zenodotus/engine/FamilyStatus" "memoryCells" "J" (.long (0 : Int64))) :
    MetFree l (⟨"java/lang/Record", "<init>", "()V"⟩ : MethodName) (head1 (Jvm.Cond.code (⟨"java/lang/Record", "<init>", "()V"⟩ : MethodName) jdk_30_method_1_code 1 none :: ws) ({ frames := 1, cells := 0, slots := 0, locals := 12 } : Room)) (fun a U => a = #[(.ref o0_)] ∧ Z.Warmed39 U.vm ∧ U.heap = h0) (fun _ _ _ _ _ => True) (fun _ U o U' => ∃ v L, o = .returned v ∧ Qinit14 Z o0_ h0 n0 v U'.heap L ∧ FrameEnd U o U' L ({ frames := 1, cells := 0, slots := 0, locals := 12 } : Room).cells ({ frames := 1, cells := 0, slots := 0, locals := 12 } : Room).slots) := by
  refine MetFree.of_bodySF (plainFor_of_name pn_2) hisR ?_
  intro p e s m args below meth c s₁ Bd hml0 hP hK
  obtain ⟨rfl, hZ, hh⟩ := hP
  have hx := Bd.exec
  have hby := Bd.bytes
  have hml : c.maxLocals = 1 := hml0
  have hown : s.vm.findClass "java/lang/Record" = some m.cls := findClass_of_methodNamed Bd.named
  have hnm := (name_of_methodNamed Bd.named Bd.method).1
  have X0 : Stand p l e ({ frames := 1, cells := 0, slots := 0, locals := 12 } : Room) s m #[(.ref o0_)] below meth c s₁ [] 0 0 := Stand.of_body Bd
  have e0 : s₁.heap = h0 := by rw [← hh, Bd.state]; rfl
  have N0 := Fr.nil n0
  have pre0 : ∀ t, Steps p.tables e below (s₁.setTop (mkF m 0 #[.val (.ref o0_)] [])) t → Steps p.tables e below (s₁.setTop (entryFrame m #[(.ref o0_)] 1)) t := fun t k => castTop (efinit14 m o0_) k
  have K0 : Keep h0 h0 [] := Keep.refl _ _
  obtain ⟨T1, X1, e1, st1⟩ := initO X0 hx hZ hown (hw _ (List.mem_of_getElem? (i := 41) rfl)) (hw _ (List.mem_of_getElem? (i := 12) rfl)) (hw _ (List.mem_of_getElem? (i := 13) rfl)) e0 (g := (mkF m 1 #[.val (.ref o0_)] [(.ref o0_)])) rfl (by rw [hml]; rfl) rfl (hb hby d7_1) (by decide) (W := 0) (by show 2 * 0 + _ ≤ _; exact Nat.le_of_eq rfl) (by decide)
  have pre2 : ∀ t, Steps p.tables e below (T1.setTop (mkF m 4 #[.val (.ref o0_)] [])) t → Steps p.tables e below (s₁.setTop (entryFrame m #[(.ref o0_)] 1)) t := by
    intro t kt
    refine pre0 t ?_
    show Steps p.tables e below (s₁.setTop (mkF m 0 #[.val (.ref o0_)] [])) _
    refine XS.aloadN X0.here hx rfl (hb hby d7_0) rfl rfl ?_
    show Steps p.tables e below (s₁.setTop (mkF m 1 #[.val (.ref o0_)] [(.ref o0_)])) _
    refine st1 _ ?_
    exact kt
  obtain ⟨fs, hr, hrun, hended, hW, hsame⟩ := X1.leave (v := none) (fun _ => rfl)
  refine ⟨_, _, pre2 _ (X1.returnOut hx Bd.returns (hb hby d7_4) hr), hrun, hended, _, _, rfl, ?_, ⟨_, rfl⟩, hW, hsame.mono (by decide) (by decide)⟩
  show Qinit14 Z o0_ h0 n0 _ T1.heap _
  rw [e1]
  exact ⟨rfl, N0, rfl⟩
theorem pd_5 : parseMethodDescriptor "()V" = some ⟨[], none⟩ := by decide +kernel
theorem d6_4 : decode prog_9_method_1_code 4 = .ok (.aload_n 0, 1) := by decide +kernel
theorem d6_5 : decode prog_9_method_1_code 5 = .ok (.aload_n 1, 1) := by decide +kernel
theorem d6_6 : decode prog_9_method_1_code 6 = .ok (.putfield 7, 3) := by decide +kernel
theorem d6_9 : decode prog_9_method_1_code 9 = .ok (.aload_n 0, 1) := by decide +kernel
theorem d6_10 : decode prog_9_method_1_code 10 = .ok (.iload_n 2, 1) := by decide +kernel
theorem d6_11 : decode prog_9_method_1_code 11 = .ok (.putfield 13, 3) := by decide +kernel
theorem d6_14 : decode prog_9_method_1_code 14 = .ok (.aload_n 0, 1) := by decide +kernel
theorem d6_15 : decode prog_9_method_1_code 15 = .ok (.lload_n 3, 1) := by decide +kernel
theorem d6_16 : decode prog_9_method_1_code 16 = .ok (.putfield 17, 3) := by decide +kernel
theorem d6_19 : decode prog_9_method_1_code 19 = .ok (.aload_n 0, 1) := by decide +kernel
theorem d6_20 : decode prog_9_method_1_code 20 = .ok (.lload 5, 2) := by decide +kernel
theorem d6_22 : decode prog_9_method_1_code 22 = .ok (.putfield 21, 3) := by decide +kernel
theorem d6_25 : decode prog_9_method_1_code 25 = .ok (.return_, 1) := by decide +kernel
theorem pn_3 : plainName "com/example/zenodotus/zenodotus/engine/FamilyStatus" = true := by first | (simp [plainName, overriddenIn]; done) | decide +kernel
theorem efinit13 (m : MethodId) (o0_ : Addr) (o1_ : Addr) (x0_ : Int32) (y1_ : Int64) (y2_ : Int64) : entryFrame m #[(.ref o0_), (.ref o1_), (.int x0_), (.long y1_), (.long y2_)] 7 = mkF m 0 #[.val (.ref o0_), .val (.ref o1_), .val (.int x0_), .val (.long y1_), .second, .val (.long y2_), .second] [] := by first | (simp [entryFrame, mkF, argsToLocals, Value.category]; done) | rfl
def Qinit13 (Z : State) (o0_ : Addr) (o1_ : Addr) (x0_ : Int32) (y1_ : Int64) (y2_ : Int64) (o2_ : Addr) (ko2_ : ClassId) (x3_ : Int32) (x4_ : Int32) (h0 : Heap) (n0 : Nat) (v : Option Value) (h : Heap) (L : List Loc) : Prop := v = none ∧ Fr n0 L ∧ Keep h0 h [o0_] ∧ Exa Z h o0_ "com/example/zenodotus/zenodotus/engine/FamilyStatus" ∧ Fld Z h o0_ "com/example/zenodotus/zenodotus/engine/FamilyStatus" "family" "Ljava/lang/String;" (.ref o1_) ∧ Fld Z h o0_ "com/example/zenodotus/zenodotus/engine/FamilyStatus" "storeFiles" "I" (.int x0_) ∧ Fld Z h o0_ "com/example/zenodotus/zenodotus/engine/FamilyStatus" "storeCells" "J" (.long y1_) ∧ Fld Z h o0_ "com/example/zenodotus/zenodotus/engine/FamilyStatus" "memoryCells" "J" (.long y2_)
set_option maxRecDepth 65536 in
set_option maxHeartbeats 40000000 in
theorem rminit13 (l : Launch) (Z : State) (a0 : Array Value) (hw : ∀ d ∈ tables_1, d.before a0 Z = true) (ws : List Jvm.Cond) (o0_ : Addr) (o1_ : Addr) (x0_ : Int32) (y1_ : Int64) (y2_ : Int64) (o2_ : Addr) (ko2_ : ClassId) (x3_ : Int32) (x4_ : Int32) (h0 : Heap) (n0 : Nat) (O0 : Old Z n0 h0) (P0 : Exa Z h0 o0_ "com/example/zenodotus/zenodotus/engine/FamilyStatus") (P1 : Fld Z h0 o0_ "com/example/zenodotus/zenodotus/engine/FamilyStatus" "family" "Ljava/lang/String;" .null) (P2 : Fld Z h0 o0_ "com/example/zenodotus/zenodotus/engine/FamilyStatus" "storeFiles" "I" (.int (0 : Int32))) (P3 : Fld Z h0 o0_ "com/example/zenodotus/zenodotus/engine/FamilyStatus" "storeCells" "J" (.long (0 : Int64))) (P4 : Fld Z h0 o0_ "com/example/zenodotus/zenodotus/engine/FamilyStatus" "memoryCells" "J" (.long (0 : Int64))) (P5 : Exa Z h0 o1_ "java/lang/String") (P6 : Fld Z h0 o1_ "java/lang/String" "coder" "B" (.int (0 : Int32))) (P7 : Fld Z h0 o1_ "java/lang/String" "value" "[B" (.ref o2_)) (P8 : Arv Z h0 o2_ ko2_ .byte (2 : Int32) [(.int x3_), (.int x4_)] (.int (0 : Int32))) (P9 : Exa Z h0 o2_ "[B") (P10 : n0 ≤ o0_) :
    MetFree l (⟨"com/example/zenodotus/zenodotus/engine/FamilyStatus", "<init>", "(Ljava/lang/String;IJJ)V"⟩ : MethodName) (head1 (Jvm.Cond.code (⟨"com/example/zenodotus/zenodotus/engine/FamilyStatus", "<init>", "(Ljava/lang/String;IJJ)V"⟩ : MethodName) prog_9_method_1_code 7 none :: ws) ({ frames := 2, cells := 0, slots := 0, locals := 24 } : Room)) (fun a U => a = #[(.ref o0_), (.ref o1_), (.int x0_), (.long y1_), (.long y2_)] ∧ Z.Warmed39 U.vm ∧ U.heap = h0) (fun _ _ _ _ _ => True) (fun _ U o U' => ∃ v L, o = .returned v ∧ Qinit13 Z o0_ o1_ x0_ y1_ y2_ o2_ ko2_ x3_ x4_ h0 n0 v U'.heap L ∧ FrameEnd U o U' L ({ frames := 2, cells := 0, slots := 0, locals := 24 } : Room).cells ({ frames := 2, cells := 0, slots := 0, locals := 24 } : Room).slots) := by
  refine MetFree.of_bodySF (plainFor_of_name pn_3) hisR ?_
  intro p e s m args below meth c s₁ Bd hml0 hP hK
  obtain ⟨rfl, hZ, hh⟩ := hP
  have hx := Bd.exec
  have hby := Bd.bytes
  have hml : c.maxLocals = 7 := hml0
  have hown : s.vm.findClass "com/example/zenodotus/zenodotus/engine/FamilyStatus" = some m.cls := findClass_of_methodNamed Bd.named
  have hnm := (name_of_methodNamed Bd.named Bd.method).1
  have X0 : Stand p l e ({ frames := 2, cells := 0, slots := 0, locals := 24 } : Room) s m #[(.ref o0_), (.ref o1_), (.int x0_), (.long y1_), (.long y2_)] below meth c s₁ [] 0 0 := Stand.of_body Bd
  have e0 : s₁.heap = h0 := by rw [← hh, Bd.state]; rfl
  have N0 := Fr.nil n0
  have pre0 : ∀ t, Steps p.tables e below (s₁.setTop (mkF m 0 #[.val (.ref o0_), .val (.ref o1_), .val (.int x0_), .val (.long y1_), .second, .val (.long y2_), .second] [])) t → Steps p.tables e below (s₁.setTop (entryFrame m #[(.ref o0_), (.ref o1_), (.int x0_), (.long y1_), (.long y2_)] 7)) t := fun t k => castTop (efinit13 m o0_ o1_ x0_ y1_ y2_) k
  have K0 : Keep h0 h0 [o0_] := Keep.refl _ _
  obtain ⟨_, _, ⟨T1, L1, k1, n1⟩, -, X1, ⟨Lc1, hQ1, l1, y1, z1⟩, st1⟩ := X0.specialBack hx (y := (⟨"java/lang/Record", "<init>", "()V"⟩ : MethodName)) rfl hown (mvT hZ (hw _ (List.mem_of_getElem? (i := 36) rfl))) (mvT hZ (hw _ (List.mem_of_getElem? (i := 37) rfl))) (mvT hZ (hw _ (List.mem_of_getElem? (i := 40) rfl))) (by decide) (backOf (W := 0) (rminit14 l Z a0 hw [] o0_ h0 n0 O0 P0 P1 P2 P3 P4) hZ (hw _ (List.mem_of_getElem? (i := 40) rfl)) (hw _ (List.mem_of_getElem? (i := 39) rfl)) (by decide) (by decide)) (g := (mkF m 1 #[.val (.ref o0_), .val (.ref o1_), .val (.int x0_), .val (.long y1_), .second, .val (.long y2_), .second] [(.ref o0_)])) rfl (by rw [hml]; rfl) (Steps.refl _) (a := o0_) (argsL := []) (rest := []) (lenOf pd_5 rfl) rfl (by show 2 * 0 + _ ≤ _; exact Nat.le_of_eq rfl) (hb hby d6_1) (fun _ _ => ⟨rfl, e0, (by decide : 0 + 0 ≤ _), (by decide : 0 + 0 ≤ _)⟩)
  dsimp only [Pt.U, Pt.locs, Pt.cells, Pt.slots] at X1 l1 y1 z1 st1 hQ1
  subst l1 y1 z1
  obtain ⟨h1, e1⟩ : ∃ z, T1.heap = z := ⟨_, rfl⟩
  rw [e1] at hQ1
  obtain ⟨rfl, N1q, hh1⟩ := hQ1
  have N2 := Fr.app N0 N1q
  have e1' : T1.heap = h0 := e1.trans hh1
  obtain ⟨T3, h3, X3, e3, W3, st3⟩ := putF X1 hx hZ hown (host := "") (Or.inl (hw _ (List.mem_of_getElem? (i := 42) rfl))) Via.refl e1' P1 P0 (Or.inr ⟨(hw _ (List.mem_of_getElem? (i := 43) rfl)), rfl, hnm⟩) (hw _ (List.mem_of_getElem? (i := 31) rfl)) (ty := (.object "java/lang/String")) (by decide) rfl rfl (g := (mkF m 6 #[.val (.ref o0_), .val (.ref o1_), .val (.int x0_), .val (.long y1_), .second, .val (.long y2_), .second] [(.ref o1_), (.ref o0_)])) rfl rfl (hb hby d6_6)
  have N4 := Fr.snoc X3 N2 P10
  have f5 : Fld Z h3 o0_ "com/example/zenodotus/zenodotus/engine/FamilyStatus" "family" "Ljava/lang/String;" (.ref o1_) := P1.same W3
  have f6 : Fld Z h3 o0_ "com/example/zenodotus/zenodotus/engine/FamilyStatus" "storeFiles" "I" (.int (0 : Int32)) := P2.other W3 (Or.inr (slot_ne (Or.inr (hw _ (List.mem_of_getElem? (i := 45) rfl))) (Or.inr (hw _ (List.mem_of_getElem? (i := 43) rfl))) (by decide) (t := .int) (t' := (.object "java/lang/String")) (by decide) (by decide)))
  have f7 : Exa Z h3 o0_ "com/example/zenodotus/zenodotus/engine/FamilyStatus" := P0.wr W3
  obtain ⟨T8, h8, X8, e8, W8, st8⟩ := putF X3 hx hZ hown (host := "") (Or.inl (hw _ (List.mem_of_getElem? (i := 44) rfl))) Via.refl e3 f6 f7 (Or.inr ⟨(hw _ (List.mem_of_getElem? (i := 45) rfl)), rfl, hnm⟩) (hw _ (List.mem_of_getElem? (i := 31) rfl)) (ty := .int) (by decide) rfl rfl (g := (mkF m 11 #[.val (.ref o0_), .val (.ref o1_), .val (.int x0_), .val (.long y1_), .second, .val (.long y2_), .second] [(.int x0_), (.ref o0_)])) rfl rfl (hb hby d6_11)
  have N9 := Fr.snoc X8 N4 P10
  have f10 : Fld Z h8 o0_ "com/example/zenodotus/zenodotus/engine/FamilyStatus" "storeFiles" "I" (.int x0_) := f6.same W8
  have f11 : Fld Z h3 o0_ "com/example/zenodotus/zenodotus/engine/FamilyStatus" "storeCells" "J" (.long (0 : Int64)) := P3.other W3 (Or.inr (slot_ne (Or.inr (hw _ (List.mem_of_getElem? (i := 47) rfl))) (Or.inr (hw _ (List.mem_of_getElem? (i := 43) rfl))) (by decide) (t := .long) (t' := (.object "java/lang/String")) (by decide) (by decide)))
  have f12 : Fld Z h8 o0_ "com/example/zenodotus/zenodotus/engine/FamilyStatus" "storeCells" "J" (.long (0 : Int64)) := f11.other W8 (Or.inr (slot_ne (Or.inr (hw _ (List.mem_of_getElem? (i := 47) rfl))) (Or.inr (hw _ (List.mem_of_getElem? (i := 45) rfl))) (by decide) (t := .long) (t' := .int) (by decide) (by decide)))
  have f13 : Exa Z h8 o0_ "com/example/zenodotus/zenodotus/engine/FamilyStatus" := f7.wr W8
  obtain ⟨T14, h14, X14, e14, W14, st14⟩ := putF X8 hx hZ hown (host := "") (Or.inl (hw _ (List.mem_of_getElem? (i := 46) rfl))) Via.refl e8 f12 f13 (Or.inr ⟨(hw _ (List.mem_of_getElem? (i := 47) rfl)), rfl, hnm⟩) (hw _ (List.mem_of_getElem? (i := 31) rfl)) (ty := .long) (by decide) rfl rfl (g := (mkF m 16 #[.val (.ref o0_), .val (.ref o1_), .val (.int x0_), .val (.long y1_), .second, .val (.long y2_), .second] [(.long y1_), (.ref o0_)])) rfl rfl (hb hby d6_16)
  have N15 := Fr.snoc X14 N9 P10
  have f16 : Fld Z h14 o0_ "com/example/zenodotus/zenodotus/engine/FamilyStatus" "storeCells" "J" (.long y1_) := f12.same W14
  have f17 : Fld Z h3 o0_ "com/example/zenodotus/zenodotus/engine/FamilyStatus" "memoryCells" "J" (.long (0 : Int64)) := P4.other W3 (Or.inr (slot_ne (Or.inr (hw _ (List.mem_of_getElem? (i := 49) rfl))) (Or.inr (hw _ (List.mem_of_getElem? (i := 43) rfl))) (by decide) (t := .long) (t' := (.object "java/lang/String")) (by decide) (by decide)))
  have f18 : Fld Z h8 o0_ "com/example/zenodotus/zenodotus/engine/FamilyStatus" "memoryCells" "J" (.long (0 : Int64)) := f17.other W8 (Or.inr (slot_ne (Or.inr (hw _ (List.mem_of_getElem? (i := 49) rfl))) (Or.inr (hw _ (List.mem_of_getElem? (i := 45) rfl))) (by decide) (t := .long) (t' := .int) (by decide) (by decide)))
  have f19 : Fld Z h14 o0_ "com/example/zenodotus/zenodotus/engine/FamilyStatus" "memoryCells" "J" (.long (0 : Int64)) := f18.other W14 (Or.inr (slot_ne (Or.inr (hw _ (List.mem_of_getElem? (i := 49) rfl))) (Or.inr (hw _ (List.mem_of_getElem? (i := 47) rfl))) (by decide) (t := .long) (t' := .long) (by decide) (by decide)))
  have f20 : Exa Z h14 o0_ "com/example/zenodotus/zenodotus/engine/FamilyStatus" := f13.wr W14
  obtain ⟨T21, h21, X21, e21, W21, st21⟩ := putF X14 hx hZ hown (host := "") (Or.inl (hw _ (List.mem_of_getElem? (i := 48) rfl))) Via.refl e14 f19 f20 (Or.inr ⟨(hw _ (List.mem_of_getElem? (i := 49) rfl)), rfl, hnm⟩) (hw _ (List.mem_of_getElem? (i := 31) rfl)) (ty := .long) (by decide) rfl rfl (g := (mkF m 22 #[.val (.ref o0_), .val (.ref o1_), .val (.int x0_), .val (.long y1_), .second, .val (.long y2_), .second] [(.long y2_), (.ref o0_)])) rfl rfl (hb hby d6_22)
  have N22 := Fr.snoc X21 N15 P10
  have f23 : Fld Z h21 o0_ "com/example/zenodotus/zenodotus/engine/FamilyStatus" "memoryCells" "J" (.long y2_) := f19.same W21
  have pre24 : ∀ t, Steps p.tables e below (T21.setTop (mkF m 25 #[.val (.ref o0_), .val (.ref o1_), .val (.int x0_), .val (.long y1_), .second, .val (.long y2_), .second] [])) t → Steps p.tables e below (s₁.setTop (entryFrame m #[(.ref o0_), (.ref o1_), (.int x0_), (.long y1_), (.long y2_)] 7)) t := by
    intro t kt
    refine pre0 t ?_
    show Steps p.tables e below (s₁.setTop (mkF m 0 #[.val (.ref o0_), .val (.ref o1_), .val (.int x0_), .val (.long y1_), .second, .val (.long y2_), .second] [])) _
    refine XS.aloadN X0.here hx rfl (hb hby d6_0) rfl rfl ?_
    show Steps p.tables e below (s₁.setTop (mkF m 1 #[.val (.ref o0_), .val (.ref o1_), .val (.int x0_), .val (.long y1_), .second, .val (.long y2_), .second] [(.ref o0_)])) _
    refine st1.trans ?_
    show Steps p.tables e below (T1.setTop (mkF m 4 #[.val (.ref o0_), .val (.ref o1_), .val (.int x0_), .val (.long y1_), .second, .val (.long y2_), .second] [])) _
    refine XS.aloadN X1.here hx rfl (hb hby d6_4) rfl rfl ?_
    show Steps p.tables e below (T1.setTop (mkF m 5 #[.val (.ref o0_), .val (.ref o1_), .val (.int x0_), .val (.long y1_), .second, .val (.long y2_), .second] [(.ref o0_)])) _
    refine XS.aloadN X1.here hx rfl (hb hby d6_5) rfl rfl ?_
    show Steps p.tables e below (T1.setTop (mkF m 6 #[.val (.ref o0_), .val (.ref o1_), .val (.int x0_), .val (.long y1_), .second, .val (.long y2_), .second] [(.ref o1_), (.ref o0_)])) _
    refine st3 _ ?_
    show Steps p.tables e below (T3.setTop (mkF m 9 #[.val (.ref o0_), .val (.ref o1_), .val (.int x0_), .val (.long y1_), .second, .val (.long y2_), .second] [])) _
    refine XS.aloadN X3.here hx rfl (hb hby d6_9) rfl rfl ?_
    show Steps p.tables e below (T3.setTop (mkF m 10 #[.val (.ref o0_), .val (.ref o1_), .val (.int x0_), .val (.long y1_), .second, .val (.long y2_), .second] [(.ref o0_)])) _
    refine XS.iloadN X3.here hx rfl (hb hby d6_10) rfl ?_
    show Steps p.tables e below (T3.setTop (mkF m 11 #[.val (.ref o0_), .val (.ref o1_), .val (.int x0_), .val (.long y1_), .second, .val (.long y2_), .second] [(.int x0_), (.ref o0_)])) _
    refine st8 _ ?_
    show Steps p.tables e below (T8.setTop (mkF m 14 #[.val (.ref o0_), .val (.ref o1_), .val (.int x0_), .val (.long y1_), .second, .val (.long y2_), .second] [])) _
    refine XS.aloadN X8.here hx rfl (hb hby d6_14) rfl rfl ?_
    show Steps p.tables e below (T8.setTop (mkF m 15 #[.val (.ref o0_), .val (.ref o1_), .val (.int x0_), .val (.long y1_), .second, .val (.long y2_), .second] [(.ref o0_)])) _
    refine XS.lloadN X8.here hx rfl (hb hby d6_15) rfl ?_
    show Steps p.tables e below (T8.setTop (mkF m 16 #[.val (.ref o0_), .val (.ref o1_), .val (.int x0_), .val (.long y1_), .second, .val (.long y2_), .second] [(.long y1_), (.ref o0_)])) _
    refine st14 _ ?_
    show Steps p.tables e below (T14.setTop (mkF m 19 #[.val (.ref o0_), .val (.ref o1_), .val (.int x0_), .val (.long y1_), .second, .val (.long y2_), .second] [])) _
    refine XS.aloadN X14.here hx rfl (hb hby d6_19) rfl rfl ?_
    show Steps p.tables e below (T14.setTop (mkF m 20 #[.val (.ref o0_), .val (.ref o1_), .val (.int x0_), .val (.long y1_), .second, .val (.long y2_), .second] [(.ref o0_)])) _
    refine XS.lload X14.here hx rfl (hb hby d6_20) rfl ?_
    show Steps p.tables e below (T14.setTop (mkF m 22 #[.val (.ref o0_), .val (.ref o1_), .val (.int x0_), .val (.long y1_), .second, .val (.long y2_), .second] [(.long y2_), (.ref o0_)])) _
    refine st21 _ ?_
    exact kt
  have f26 : Keep h0 h3 [o0_] := K0.wr W3 (Or.inl (List.mem_of_getElem? (i := 0) rfl))
  have f27 : Keep h0 h8 [o0_] := f26.wr W8 (Or.inl (List.mem_of_getElem? (i := 0) rfl))
  have f28 : Keep h0 h14 [o0_] := f27.wr W14 (Or.inl (List.mem_of_getElem? (i := 0) rfl))
  have f29 : Keep h0 h21 [o0_] := f28.wr W21 (Or.inl (List.mem_of_getElem? (i := 0) rfl))
  have f30 : Exa Z h21 o0_ "com/example/zenodotus/zenodotus/engine/FamilyStatus" := f20.wr W21
  have f31 : Fld Z h8 o0_ "com/example/zenodotus/zenodotus/engine/FamilyStatus" "family" "Ljava/lang/String;" (.ref o1_) := f5.other W8 (Or.inr (slot_ne (Or.inr (hw _ (List.mem_of_getElem? (i := 43) rfl))) (Or.inr (hw _ (List.mem_of_getElem? (i := 45) rfl))) (by decide) (t := (.object "java/lang/String")) (t' := .int) (by decide) (by decide)))
  have f32 : Fld Z h14 o0_ "com/example/zenodotus/zenodotus/engine/FamilyStatus" "family" "Ljava/lang/String;" (.ref o1_) := f31.other W14 (Or.inr (slot_ne (Or.inr (hw _ (List.mem_of_getElem? (i := 43) rfl))) (Or.inr (hw _ (List.mem_of_getElem? (i := 47) rfl))) (by decide) (t := (.object "java/lang/String")) (t' := .long) (by decide) (by decide)))
  have f33 : Fld Z h21 o0_ "com/example/zenodotus/zenodotus/engine/FamilyStatus" "family" "Ljava/lang/String;" (.ref o1_) := f32.other W21 (Or.inr (slot_ne (Or.inr (hw _ (List.mem_of_getElem? (i := 43) rfl))) (Or.inr (hw _ (List.mem_of_getElem? (i := 49) rfl))) (by decide) (t := (.object "java/lang/String")) (t' := .long) (by decide) (by decide)))
  have f34 : Fld Z h14 o0_ "com/example/zenodotus/zenodotus/engine/FamilyStatus" "storeFiles" "I" (.int x0_) := f10.other W14 (Or.inr (slot_ne (Or.inr (hw _ (List.mem_of_getElem? (i := 45) rfl))) (Or.inr (hw _ (List.mem_of_getElem? (i := 47) rfl))) (by decide) (t := .int) (t' := .long) (by decide) (by decide)))
  have f35 : Fld Z h21 o0_ "com/example/zenodotus/zenodotus/engine/FamilyStatus" "storeFiles" "I" (.int x0_) := f34.other W21 (Or.inr (slot_ne (Or.inr (hw _ (List.mem_of_getElem? (i := 45) rfl))) (Or.inr (hw _ (List.mem_of_getElem? (i := 49) rfl))) (by decide) (t := .int) (t' := .long) (by decide) (by decide)))
  have f36 : Fld Z h21 o0_ "com/example/zenodotus/zenodotus/engine/FamilyStatus" "storeCells" "J" (.long y1_) := f16.other W21 (Or.inr (slot_ne (Or.inr (hw _ (List.mem_of_getElem? (i := 47) rfl))) (Or.inr (hw _ (List.mem_of_getElem? (i := 49) rfl))) (by decide) (t := .long) (t' := .long) (by decide) (by decide)))
  obtain ⟨fs, hr, hrun, hended, hW, hsame⟩ := X21.leave (v := none) (fun _ => rfl)
  refine ⟨_, _, pre24 _ (X21.returnOut hx Bd.returns (hb hby d6_25) hr), hrun, hended, _, _, rfl, ?_, ⟨_, rfl⟩, hW, hsame.mono (by decide) (by decide)⟩
  show Qinit13 Z o0_ o1_ x0_ y1_ y2_ o2_ ko2_ x3_ x4_ h0 n0 _ T21.heap _
  rw [e21]
  exact ⟨rfl, N22, f29, f30, f33, f35, f36, f23⟩
theorem pd_6 : parseMethodDescriptor "(Ljava/lang/String;IJJ)V" = some ⟨[(.object "java/lang/String"), .int, .long, .long], none⟩ := by decide +kernel
theorem efinit15 (m : MethodId) (o0_ : Addr) (o1_ : Addr) (x0_ : Int32) (y1_ : Int64) (y2_ : Int64) : entryFrame m #[(.ref o0_), (.ref o1_), (.int x0_), (.long y1_), (.long y2_)] 7 = mkF m 0 #[.val (.ref o0_), .val (.ref o1_), .val (.int x0_), .val (.long y1_), .second, .val (.long y2_), .second] [] := by first | (simp [entryFrame, mkF, argsToLocals, Value.category]; done) | rfl
def Qinit15 (Z : State) (o0_ : Addr) (o1_ : Addr) (x0_ : Int32) (y1_ : Int64) (y2_ : Int64) (o2_ : Addr) (ko2_ : ClassId) (x3_ : Int32) (h0 : Heap) (n0 : Nat) (v : Option Value) (h : Heap) (L : List Loc) : Prop := v = none ∧ Fr n0 L ∧ Keep h0 h [o0_] ∧ Exa Z h o0_ "com/example/zenodotus/zenodotus/engine/FamilyStatus" ∧ Fld Z h o0_ "com/example/zenodotus/zenodotus/engine/FamilyStatus" "family" "Ljava/lang/String;" (.ref o1_) ∧ Fld Z h o0_ "com/example/zenodotus/zenodotus/engine/FamilyStatus" "storeFiles" "I" (.int x0_) ∧ Fld Z h o0_ "com/example/zenodotus/zenodotus/engine/FamilyStatus" "storeCells" "J" (.long y1_) ∧ Fld Z h o0_ "com/example/zenodotus/zenodotus/engine/FamilyStatus" "memoryCells" "J" (.long y2_)
set_option maxRecDepth 65536 in
set_option maxHeartbeats 40000000 in
theorem rminit15 (l : Launch) (Z : State) (a0 : Array Value) (hw : ∀ d ∈ tables_1, d.before a0 Z = true) (ws : List Jvm.Cond) (o0_ : Addr) (o1_ : Addr) (x0_ : Int32) (y1_ : Int64) (y2_ : Int64) (o2_ : Addr) (ko2_ : ClassId) (x3_ : Int32) (h0 : Heap) (n0 : Nat) (O0 : Old Z n0 h0) (P0 : Exa Z h0 o0_ "com/example/zenodotus/zenodotus/engine/FamilyStatus") (P1 : Fld Z h0 o0_ "com/example/zenodotus/zenodotus/engine/FamilyStatus" "family" "Ljava/lang/String;" .null) (P2 : Fld Z h0 o0_ "com/example/zenodotus/zenodotus/engine/FamilyStatus" "storeFiles" "I" (.int (0 : Int32))) (P3 : Fld Z h0 o0_ "com/example/zenodotus/zenodotus/engine/FamilyStatus" "storeCells" "J" (.long (0 : Int64))) (P4 : Fld Z h0 o0_ "com/example/zenodotus/zenodotus/engine/FamilyStatus" "memoryCells" "J" (.long (0 : Int64))) (P5 : Exa Z h0 o1_ "java/lang/String") (P6 : Fld Z h0 o1_ "java/lang/String" "coder" "B" (.int (0 : Int32))) (P7 : Fld Z h0 o1_ "java/lang/String" "value" "[B" (.ref o2_)) (P8 : Arv Z h0 o2_ ko2_ .byte (1 : Int32) [(.int x3_)] (.int (0 : Int32))) (P9 : Exa Z h0 o2_ "[B") (P10 : n0 ≤ o0_) :
    MetFree l (⟨"com/example/zenodotus/zenodotus/engine/FamilyStatus", "<init>", "(Ljava/lang/String;IJJ)V"⟩ : MethodName) (head1 (Jvm.Cond.code (⟨"com/example/zenodotus/zenodotus/engine/FamilyStatus", "<init>", "(Ljava/lang/String;IJJ)V"⟩ : MethodName) prog_9_method_1_code 7 none :: ws) ({ frames := 2, cells := 0, slots := 0, locals := 24 } : Room)) (fun a U => a = #[(.ref o0_), (.ref o1_), (.int x0_), (.long y1_), (.long y2_)] ∧ Z.Warmed39 U.vm ∧ U.heap = h0) (fun _ _ _ _ _ => True) (fun _ U o U' => ∃ v L, o = .returned v ∧ Qinit15 Z o0_ o1_ x0_ y1_ y2_ o2_ ko2_ x3_ h0 n0 v U'.heap L ∧ FrameEnd U o U' L ({ frames := 2, cells := 0, slots := 0, locals := 24 } : Room).cells ({ frames := 2, cells := 0, slots := 0, locals := 24 } : Room).slots) := by
  refine MetFree.of_bodySF (plainFor_of_name pn_3) hisR ?_
  intro p e s m args below meth c s₁ Bd hml0 hP hK
  obtain ⟨rfl, hZ, hh⟩ := hP
  have hx := Bd.exec
  have hby := Bd.bytes
  have hml : c.maxLocals = 7 := hml0
  have hown : s.vm.findClass "com/example/zenodotus/zenodotus/engine/FamilyStatus" = some m.cls := findClass_of_methodNamed Bd.named
  have hnm := (name_of_methodNamed Bd.named Bd.method).1
  have X0 : Stand p l e ({ frames := 2, cells := 0, slots := 0, locals := 24 } : Room) s m #[(.ref o0_), (.ref o1_), (.int x0_), (.long y1_), (.long y2_)] below meth c s₁ [] 0 0 := Stand.of_body Bd
  have e0 : s₁.heap = h0 := by rw [← hh, Bd.state]; rfl
  have N0 := Fr.nil n0
  have pre0 : ∀ t, Steps p.tables e below (s₁.setTop (mkF m 0 #[.val (.ref o0_), .val (.ref o1_), .val (.int x0_), .val (.long y1_), .second, .val (.long y2_), .second] [])) t → Steps p.tables e below (s₁.setTop (entryFrame m #[(.ref o0_), (.ref o1_), (.int x0_), (.long y1_), (.long y2_)] 7)) t := fun t k => castTop (efinit15 m o0_ o1_ x0_ y1_ y2_) k
  have K0 : Keep h0 h0 [o0_] := Keep.refl _ _
  obtain ⟨_, _, ⟨T1, L1, k1, n1⟩, -, X1, ⟨Lc1, hQ1, l1, y1, z1⟩, st1⟩ := X0.specialBack hx (y := (⟨"java/lang/Record", "<init>", "()V"⟩ : MethodName)) rfl hown (mvT hZ (hw _ (List.mem_of_getElem? (i := 36) rfl))) (mvT hZ (hw _ (List.mem_of_getElem? (i := 37) rfl))) (mvT hZ (hw _ (List.mem_of_getElem? (i := 40) rfl))) (by decide) (backOf (W := 0) (rminit14 l Z a0 hw [] o0_ h0 n0 O0 P0 P1 P2 P3 P4) hZ (hw _ (List.mem_of_getElem? (i := 40) rfl)) (hw _ (List.mem_of_getElem? (i := 39) rfl)) (by decide) (by decide)) (g := (mkF m 1 #[.val (.ref o0_), .val (.ref o1_), .val (.int x0_), .val (.long y1_), .second, .val (.long y2_), .second] [(.ref o0_)])) rfl (by rw [hml]; rfl) (Steps.refl _) (a := o0_) (argsL := []) (rest := []) (lenOf pd_5 rfl) rfl (by show 2 * 0 + _ ≤ _; exact Nat.le_of_eq rfl) (hb hby d6_1) (fun _ _ => ⟨rfl, e0, (by decide : 0 + 0 ≤ _), (by decide : 0 + 0 ≤ _)⟩)
  dsimp only [Pt.U, Pt.locs, Pt.cells, Pt.slots] at X1 l1 y1 z1 st1 hQ1
  subst l1 y1 z1
  obtain ⟨h1, e1⟩ : ∃ z, T1.heap = z := ⟨_, rfl⟩
  rw [e1] at hQ1
  obtain ⟨rfl, N1q, hh1⟩ := hQ1
  have N2 := Fr.app N0 N1q
  have e1' : T1.heap = h0 := e1.trans hh1
  obtain ⟨T3, h3, X3, e3, W3, st3⟩ := putF X1 hx hZ hown (host := "") (Or.inl (hw _ (List.mem_of_getElem? (i := 42) rfl))) Via.refl e1' P1 P0 (Or.inr ⟨(hw _ (List.mem_of_getElem? (i := 43) rfl)), rfl, hnm⟩) (hw _ (List.mem_of_getElem? (i := 31) rfl)) (ty := (.object "java/lang/String")) (by decide) rfl rfl (g := (mkF m 6 #[.val (.ref o0_), .val (.ref o1_), .val (.int x0_), .val (.long y1_), .second, .val (.long y2_), .second] [(.ref o1_), (.ref o0_)])) rfl rfl (hb hby d6_6)
  have N4 := Fr.snoc X3 N2 P10
  have f5 : Fld Z h3 o0_ "com/example/zenodotus/zenodotus/engine/FamilyStatus" "family" "Ljava/lang/String;" (.ref o1_) := P1.same W3
  have f6 : Fld Z h3 o0_ "com/example/zenodotus/zenodotus/engine/FamilyStatus" "storeFiles" "I" (.int (0 : Int32)) := P2.other W3 (Or.inr (slot_ne (Or.inr (hw _ (List.mem_of_getElem? (i := 45) rfl))) (Or.inr (hw _ (List.mem_of_getElem? (i := 43) rfl))) (by decide) (t := .int) (t' := (.object "java/lang/String")) (by decide) (by decide)))
  have f7 : Exa Z h3 o0_ "com/example/zenodotus/zenodotus/engine/FamilyStatus" := P0.wr W3
  obtain ⟨T8, h8, X8, e8, W8, st8⟩ := putF X3 hx hZ hown (host := "") (Or.inl (hw _ (List.mem_of_getElem? (i := 44) rfl))) Via.refl e3 f6 f7 (Or.inr ⟨(hw _ (List.mem_of_getElem? (i := 45) rfl)), rfl, hnm⟩) (hw _ (List.mem_of_getElem? (i := 31) rfl)) (ty := .int) (by decide) rfl rfl (g := (mkF m 11 #[.val (.ref o0_), .val (.ref o1_), .val (.int x0_), .val (.long y1_), .second, .val (.long y2_), .second] [(.int x0_), (.ref o0_)])) rfl rfl (hb hby d6_11)
  have N9 := Fr.snoc X8 N4 P10
  have f10 : Fld Z h8 o0_ "com/example/zenodotus/zenodotus/engine/FamilyStatus" "storeFiles" "I" (.int x0_) := f6.same W8
  have f11 : Fld Z h3 o0_ "com/example/zenodotus/zenodotus/engine/FamilyStatus" "storeCells" "J" (.long (0 : Int64)) := P3.other W3 (Or.inr (slot_ne (Or.inr (hw _ (List.mem_of_getElem? (i := 47) rfl))) (Or.inr (hw _ (List.mem_of_getElem? (i := 43) rfl))) (by decide) (t := .long) (t' := (.object "java/lang/String")) (by decide) (by decide)))
  have f12 : Fld Z h8 o0_ "com/example/zenodotus/zenodotus/engine/FamilyStatus" "storeCells" "J" (.long (0 : Int64)) := f11.other W8 (Or.inr (slot_ne (Or.inr (hw _ (List.mem_of_getElem? (i := 47) rfl))) (Or.inr (hw _ (List.mem_of_getElem? (i := 45) rfl))) (by decide) (t := .long) (t' := .int) (by decide) (by decide)))
  have f13 : Exa Z h8 o0_ "com/example/zenodotus/zenodotus/engine/FamilyStatus" := f7.wr W8
  obtain ⟨T14, h14, X14, e14, W14, st14⟩ := putF X8 hx hZ hown (host := "") (Or.inl (hw _ (List.mem_of_getElem? (i := 46) rfl))) Via.refl e8 f12 f13 (Or.inr ⟨(hw _ (List.mem_of_getElem? (i := 47) rfl)), rfl, hnm⟩) (hw _ (List.mem_of_getElem? (i := 31) rfl)) (ty := .long) (by decide) rfl rfl (g := (mkF m 16 #[.val (.ref o0_), .val (.ref o1_), .val (.int x0_), .val (.long y1_), .second, .val (.long y2_), .second] [(.long y1_), (.ref o0_)])) rfl rfl (hb hby d6_16)
  have N15 := Fr.snoc X14 N9 P10
  have f16 : Fld Z h14 o0_ "com/example/zenodotus/zenodotus/engine/FamilyStatus" "storeCells" "J" (.long y1_) := f12.same W14
  have f17 : Fld Z h3 o0_ "com/example/zenodotus/zenodotus/engine/FamilyStatus" "memoryCells" "J" (.long (0 : Int64)) := P4.other W3 (Or.inr (slot_ne (Or.inr (hw _ (List.mem_of_getElem? (i := 49) rfl))) (Or.inr (hw _ (List.mem_of_getElem? (i := 43) rfl))) (by decide) (t := .long) (t' := (.object "java/lang/String")) (by decide) (by decide)))
  have f18 : Fld Z h8 o0_ "com/example/zenodotus/zenodotus/engine/FamilyStatus" "memoryCells" "J" (.long (0 : Int64)) := f17.other W8 (Or.inr (slot_ne (Or.inr (hw _ (List.mem_of_getElem? (i := 49) rfl))) (Or.inr (hw _ (List.mem_of_getElem? (i := 45) rfl))) (by decide) (t := .long) (t' := .int) (by decide) (by decide)))
  have f19 : Fld Z h14 o0_ "com/example/zenodotus/zenodotus/engine/FamilyStatus" "memoryCells" "J" (.long (0 : Int64)) := f18.other W14 (Or.inr (slot_ne (Or.inr (hw _ (List.mem_of_getElem? (i := 49) rfl))) (Or.inr (hw _ (List.mem_of_getElem? (i := 47) rfl))) (by decide) (t := .long) (t' := .long) (by decide) (by decide)))
  have f20 : Exa Z h14 o0_ "com/example/zenodotus/zenodotus/engine/FamilyStatus" := f13.wr W14
  obtain ⟨T21, h21, X21, e21, W21, st21⟩ := putF X14 hx hZ hown (host := "") (Or.inl (hw _ (List.mem_of_getElem? (i := 48) rfl))) Via.refl e14 f19 f20 (Or.inr ⟨(hw _ (List.mem_of_getElem? (i := 49) rfl)), rfl, hnm⟩) (hw _ (List.mem_of_getElem? (i := 31) rfl)) (ty := .long) (by decide) rfl rfl (g := (mkF m 22 #[.val (.ref o0_), .val (.ref o1_), .val (.int x0_), .val (.long y1_), .second, .val (.long y2_), .second] [(.long y2_), (.ref o0_)])) rfl rfl (hb hby d6_22)
  have N22 := Fr.snoc X21 N15 P10
  have f23 : Fld Z h21 o0_ "com/example/zenodotus/zenodotus/engine/FamilyStatus" "memoryCells" "J" (.long y2_) := f19.same W21
  have pre24 : ∀ t, Steps p.tables e below (T21.setTop (mkF m 25 #[.val (.ref o0_), .val (.ref o1_), .val (.int x0_), .val (.long y1_), .second, .val (.long y2_), .second] [])) t → Steps p.tables e below (s₁.setTop (entryFrame m #[(.ref o0_), (.ref o1_), (.int x0_), (.long y1_), (.long y2_)] 7)) t := by
    intro t kt
    refine pre0 t ?_
    show Steps p.tables e below (s₁.setTop (mkF m 0 #[.val (.ref o0_), .val (.ref o1_), .val (.int x0_), .val (.long y1_), .second, .val (.long y2_), .second] [])) _
    refine XS.aloadN X0.here hx rfl (hb hby d6_0) rfl rfl ?_
    show Steps p.tables e below (s₁.setTop (mkF m 1 #[.val (.ref o0_), .val (.ref o1_), .val (.int x0_), .val (.long y1_), .second, .val (.long y2_), .second] [(.ref o0_)])) _
    refine st1.trans ?_
    show Steps p.tables e below (T1.setTop (mkF m 4 #[.val (.ref o0_), .val (.ref o1_), .val (.int x0_), .val (.long y1_), .second, .val (.long y2_), .second] [])) _
    refine XS.aloadN X1.here hx rfl (hb hby d6_4) rfl rfl ?_
    show Steps p.tables e below (T1.setTop (mkF m 5 #[.val (.ref o0_), .val (.ref o1_), .val (.int x0_), .val (.long y1_), .second, .val (.long y2_), .second] [(.ref o0_)])) _
    refine XS.aloadN X1.here hx rfl (hb hby d6_5) rfl rfl ?_
    show Steps p.tables e below (T1.setTop (mkF m 6 #[.val (.ref o0_), .val (.ref o1_), .val (.int x0_), .val (.long y1_), .second, .val (.long y2_), .second] [(.ref o1_), (.ref o0_)])) _
    refine st3 _ ?_
    show Steps p.tables e below (T3.setTop (mkF m 9 #[.val (.ref o0_), .val (.ref o1_), .val (.int x0_), .val (.long y1_), .second, .val (.long y2_), .second] [])) _
    refine XS.aloadN X3.here hx rfl (hb hby d6_9) rfl rfl ?_
    show Steps p.tables e below (T3.setTop (mkF m 10 #[.val (.ref o0_), .val (.ref o1_), .val (.int x0_), .val (.long y1_), .second, .val (.long y2_), .second] [(.ref o0_)])) _
    refine XS.iloadN X3.here hx rfl (hb hby d6_10) rfl ?_
    show Steps p.tables e below (T3.setTop (mkF m 11 #[.val (.ref o0_), .val (.ref o1_), .val (.int x0_), .val (.long y1_), .second, .val (.long y2_), .second] [(.int x0_), (.ref o0_)])) _
    refine st8 _ ?_
    show Steps p.tables e below (T8.setTop (mkF m 14 #[.val (.ref o0_), .val (.ref o1_), .val (.int x0_), .val (.long y1_), .second, .val (.long y2_), .second] [])) _
    refine XS.aloadN X8.here hx rfl (hb hby d6_14) rfl rfl ?_
    show Steps p.tables e below (T8.setTop (mkF m 15 #[.val (.ref o0_), .val (.ref o1_), .val (.int x0_), .val (.long y1_), .second, .val (.long y2_), .second] [(.ref o0_)])) _
    refine XS.lloadN X8.here hx rfl (hb hby d6_15) rfl ?_
    show Steps p.tables e below (T8.setTop (mkF m 16 #[.val (.ref o0_), .val (.ref o1_), .val (.int x0_), .val (.long y1_), .second, .val (.long y2_), .second] [(.long y1_), (.ref o0_)])) _
    refine st14 _ ?_
    show Steps p.tables e below (T14.setTop (mkF m 19 #[.val (.ref o0_), .val (.ref o1_), .val (.int x0_), .val (.long y1_), .second, .val (.long y2_), .second] [])) _
    refine XS.aloadN X14.here hx rfl (hb hby d6_19) rfl rfl ?_
    show Steps p.tables e below (T14.setTop (mkF m 20 #[.val (.ref o0_), .val (.ref o1_), .val (.int x0_), .val (.long y1_), .second, .val (.long y2_), .second] [(.ref o0_)])) _
    refine XS.lload X14.here hx rfl (hb hby d6_20) rfl ?_
    show Steps p.tables e below (T14.setTop (mkF m 22 #[.val (.ref o0_), .val (.ref o1_), .val (.int x0_), .val (.long y1_), .second, .val (.long y2_), .second] [(.long y2_), (.ref o0_)])) _
    refine st21 _ ?_
    exact kt
  have f26 : Keep h0 h3 [o0_] := K0.wr W3 (Or.inl (List.mem_of_getElem? (i := 0) rfl))
  have f27 : Keep h0 h8 [o0_] := f26.wr W8 (Or.inl (List.mem_of_getElem? (i := 0) rfl))
  have f28 : Keep h0 h14 [o0_] := f27.wr W14 (Or.inl (List.mem_of_getElem? (i := 0) rfl))
  have f29 : Keep h0 h21 [o0_] := f28.wr W21 (Or.inl (List.mem_of_getElem? (i := 0) rfl))
  have f30 : Exa Z h21 o0_ "com/example/zenodotus/zenodotus/engine/FamilyStatus" := f20.wr W21
  have f31 : Fld Z h8 o0_ "com/example/zenodotus/zenodotus/engine/FamilyStatus" "family" "Ljava/lang/String;" (.ref o1_) := f5.other W8 (Or.inr (slot_ne (Or.inr (hw _ (List.mem_of_getElem? (i := 43) rfl))) (Or.inr (hw _ (List.mem_of_getElem? (i := 45) rfl))) (by decide) (t := (.object "java/lang/String")) (t' := .int) (by decide) (by decide)))
  have f32 : Fld Z h14 o0_ "com/example/zenodotus/zenodotus/engine/FamilyStatus" "family" "Ljava/lang/String;" (.ref o1_) := f31.other W14 (Or.inr (slot_ne (Or.inr (hw _ (List.mem_of_getElem? (i := 43) rfl))) (Or.inr (hw _ (List.mem_of_getElem? (i := 47) rfl))) (by decide) (t := (.object "java/lang/String")) (t' := .long) (by decide) (by decide)))
  have f33 : Fld Z h21 o0_ "com/example/zenodotus/zenodotus/engine/FamilyStatus" "family" "Ljava/lang/String;" (.ref o1_) := f32.other W21 (Or.inr (slot_ne (Or.inr (hw _ (List.mem_of_getElem? (i := 43) rfl))) (Or.inr (hw _ (List.mem_of_getElem? (i := 49) rfl))) (by decide) (t := (.object "java/lang/String")) (t' := .long) (by decide) (by decide)))
  have f34 : Fld Z h14 o0_ "com/example/zenodotus/zenodotus/engine/FamilyStatus" "storeFiles" "I" (.int x0_) := f10.other W14 (Or.inr (slot_ne (Or.inr (hw _ (List.mem_of_getElem? (i := 45) rfl))) (Or.inr (hw _ (List.mem_of_getElem? (i := 47) rfl))) (by decide) (t := .int) (t' := .long) (by decide) (by decide)))
  have f35 : Fld Z h21 o0_ "com/example/zenodotus/zenodotus/engine/FamilyStatus" "storeFiles" "I" (.int x0_) := f34.other W21 (Or.inr (slot_ne (Or.inr (hw _ (List.mem_of_getElem? (i := 45) rfl))) (Or.inr (hw _ (List.mem_of_getElem? (i := 49) rfl))) (by decide) (t := .int) (t' := .long) (by decide) (by decide)))
  have f36 : Fld Z h21 o0_ "com/example/zenodotus/zenodotus/engine/FamilyStatus" "storeCells" "J" (.long y1_) := f16.other W21 (Or.inr (slot_ne (Or.inr (hw _ (List.mem_of_getElem? (i := 47) rfl))) (Or.inr (hw _ (List.mem_of_getElem? (i := 49) rfl))) (by decide) (t := .long) (t' := .long) (by decide) (by decide)))
  obtain ⟨fs, hr, hrun, hended, hW, hsame⟩ := X21.leave (v := none) (fun _ => rfl)
  refine ⟨_, _, pre24 _ (X21.returnOut hx Bd.returns (hb hby d6_25) hr), hrun, hended, _, _, rfl, ?_, ⟨_, rfl⟩, hW, hsame.mono (by decide) (by decide)⟩
  show Qinit15 Z o0_ o1_ x0_ y1_ y2_ o2_ ko2_ x3_ h0 n0 _ T21.heap _
  rw [e21]
  exact ⟨rfl, N22, f29, f30, f33, f35, f36, f23⟩
theorem d8_0 : decode prog_9_method_2_code 0 = .ok (.new 8, 3) := by decide +kernel
theorem d8_3 : decode prog_9_method_2_code 3 = .ok (.dup, 1) := by decide +kernel
theorem d8_4 : decode prog_9_method_2_code 4 = .ok (.aload_n 0, 1) := by decide +kernel
theorem d8_5 : decode prog_9_method_2_code 5 = .ok (.getfield 7, 3) := by decide +kernel
theorem d8_8 : decode prog_9_method_2_code 8 = .ok (.aload_n 0, 1) := by decide +kernel
theorem d8_9 : decode prog_9_method_2_code 9 = .ok (.getfield 13, 3) := by decide +kernel
theorem d8_12 : decode prog_9_method_2_code 12 = .ok (.aload_n 1, 1) := by decide +kernel
theorem d8_13 : decode prog_9_method_2_code 13 = .ok (.getfield 13, 3) := by decide +kernel
theorem d8_16 : decode prog_9_method_2_code 16 = .ok (.iadd, 1) := by decide +kernel
theorem d8_17 : decode prog_9_method_2_code 17 = .ok (.aload_n 0, 1) := by decide +kernel
theorem d8_18 : decode prog_9_method_2_code 18 = .ok (.getfield 17, 3) := by decide +kernel
theorem d8_21 : decode prog_9_method_2_code 21 = .ok (.aload_n 1, 1) := by decide +kernel
theorem d8_22 : decode prog_9_method_2_code 22 = .ok (.getfield 17, 3) := by decide +kernel
theorem d8_25 : decode prog_9_method_2_code 25 = .ok (.ladd, 1) := by decide +kernel
theorem d8_26 : decode prog_9_method_2_code 26 = .ok (.aload_n 0, 1) := by decide +kernel
theorem d8_27 : decode prog_9_method_2_code 27 = .ok (.getfield 21, 3) := by decide +kernel
theorem d8_30 : decode prog_9_method_2_code 30 = .ok (.aload_n 1, 1) := by decide +kernel
theorem d8_31 : decode prog_9_method_2_code 31 = .ok (.getfield 21, 3) := by decide +kernel
theorem d8_34 : decode prog_9_method_2_code 34 = .ok (.ladd, 1) := by decide +kernel
theorem d8_35 : decode prog_9_method_2_code 35 = .ok (.invokespecial 24, 3) := by decide +kernel
theorem d8_38 : decode prog_9_method_2_code 38 = .ok (.areturn, 1) := by decide +kernel
theorem efplus16 (m : MethodId) (o0_ : Addr) (o1_ : Addr) : entryFrame m #[(.ref o0_), (.ref o1_)] 2 = mkF m 0 #[.val (.ref o0_), .val (.ref o1_)] [] := by first | (simp [entryFrame, mkF, argsToLocals, Value.category]; done) | rfl
def Qplus16 (Z : State) (o0_ : Addr) (o1_ : Addr) (o2_ : Addr) (x0_ : Int32) (y1_ : Int64) (y2_ : Int64) (o3_ : Addr) (x3_ : Int32) (y4_ : Int64) (y5_ : Int64) (o4_ : Addr) (o5_ : Addr) (ko4_ : ClassId) (x6_ : Int32) (x7_ : Int32) (ko5_ : ClassId) (x8_ : Int32) (h0 : Heap) (n0 : Nat) (v : Option Value) (h : Heap) (L : List Loc) : Prop := ∃ nb1 : Addr, v = some (.ref nb1) ∧ Fr n0 L ∧ Keep h0 h [] ∧ h0.size ≤ nb1 ∧ Exa Z h nb1 "com/example/zenodotus/zenodotus/engine/FamilyStatus" ∧ Fld Z h nb1 "com/example/zenodotus/zenodotus/engine/FamilyStatus" "family" "Ljava/lang/String;" (.ref o2_) ∧ Fld Z h nb1 "com/example/zenodotus/zenodotus/engine/FamilyStatus" "storeFiles" "I" (.int (x0_ + x3_)) ∧ Fld Z h nb1 "com/example/zenodotus/zenodotus/engine/FamilyStatus" "storeCells" "J" (.long (y1_ + y4_)) ∧ Fld Z h nb1 "com/example/zenodotus/zenodotus/engine/FamilyStatus" "memoryCells" "J" (.long (y2_ + y5_))
set_option maxRecDepth 65536 in
set_option maxHeartbeats 40000000 in
theorem rmplus16 (l : Launch) (Z : State) (a0 : Array Value) (hw : ∀ d ∈ tables_1, d.before a0 Z = true) (ws : List Jvm.Cond) (o0_ : Addr) (o1_ : Addr) (o2_ : Addr) (x0_ : Int32) (y1_ : Int64) (y2_ : Int64) (o3_ : Addr) (x3_ : Int32) (y4_ : Int64) (y5_ : Int64) (o4_ : Addr) (o5_ : Addr) (ko4_ : ClassId) (x6_ : Int32) (x7_ : Int32) (ko5_ : ClassId) (x8_ : Int32) (h0 : Heap) (n0 : Nat) (O0 : Old Z n0 h0) (P0 : Exa Z h0 o0_ "com/example/zenodotus/zenodotus/engine/FamilyStatus") (P1 : Fld Z h0 o0_ "com/example/zenodotus/zenodotus/engine/FamilyStatus" "family" "Ljava/lang/String;" (.ref o2_)) (P2 : Fld Z h0 o0_ "com/example/zenodotus/zenodotus/engine/FamilyStatus" "storeFiles" "I" (.int x0_)) (P3 : Fld Z h0 o0_ "com/example/zenodotus/zenodotus/engine/FamilyStatus" "storeCells" "J" (.long y1_)) (P4 : Fld Z h0 o0_ "com/example/zenodotus/zenodotus/engine/FamilyStatus" "memoryCells" "J" (.long y2_)) (P5 : Exa Z h0 o1_ "com/example/zenodotus/zenodotus/engine/FamilyStatus") (P6 : Fld Z h0 o1_ "com/example/zenodotus/zenodotus/engine/FamilyStatus" "family" "Ljava/lang/String;" (.ref o3_)) (P7 : Fld Z h0 o1_ "com/example/zenodotus/zenodotus/engine/FamilyStatus" "storeFiles" "I" (.int x3_)) (P8 : Fld Z h0 o1_ "com/example/zenodotus/zenodotus/engine/FamilyStatus" "storeCells" "J" (.long y4_)) (P9 : Fld Z h0 o1_ "com/example/zenodotus/zenodotus/engine/FamilyStatus" "memoryCells" "J" (.long y5_)) (P10 : Exa Z h0 o2_ "java/lang/String") (P11 : Fld Z h0 o2_ "java/lang/String" "coder" "B" (.int (0 : Int32))) (P12 : Fld Z h0 o2_ "java/lang/String" "value" "[B" (.ref o4_)) (P13 : Exa Z h0 o3_ "java/lang/String") (P14 : Fld Z h0 o3_ "java/lang/String" "coder" "B" (.int (0 : Int32))) (P15 : Fld Z h0 o3_ "java/lang/String" "value" "[B" (.ref o5_)) (P16 : Arv Z h0 o4_ ko4_ .byte (2 : Int32) [(.int x6_), (.int x7_)] (.int (0 : Int32))) (P17 : Exa Z h0 o4_ "[B") (P18 : Arv Z h0 o5_ ko5_ .byte (1 : Int32) [(.int x8_)] (.int (0 : Int32))) (P19 : Exa Z h0 o5_ "[B") :
    MetFree l (⟨"com/example/zenodotus/zenodotus/engine/FamilyStatus", "plus", "(Lcom/example/zenodotus/zenodotus/engine/FamilyStatus;)Lcom/example/zenodotus/zenodotus/engine/FamilyStatus;"⟩ : MethodName) (head1 (Jvm.Cond.code (⟨"com/example/zenodotus/zenodotus/engine/FamilyStatus", "plus", "(Lcom/example/zenodotus/zenodotus/engine/FamilyStatus;)Lcom/example/zenodotus/zenodotus/engine/FamilyStatus;"⟩ : MethodName) prog_9_method_2_code 2 (some (.object "com/example/zenodotus/zenodotus/engine/FamilyStatus")) :: ws) ({ frames := 3, cells := 1, slots := 4, locals := 43 } : Room)) (fun a U => a = #[(.ref o0_), (.ref o1_)] ∧ Z.Warmed39 U.vm ∧ U.heap = h0) (fun _ _ _ _ _ => True) (fun _ U o U' => ∃ v L, o = .returned v ∧ Qplus16 Z o0_ o1_ o2_ x0_ y1_ y2_ o3_ x3_ y4_ y5_ o4_ o5_ ko4_ x6_ x7_ ko5_ x8_ h0 n0 v U'.heap L ∧ FrameEnd U o U' L ({ frames := 3, cells := 1, slots := 4, locals := 43 } : Room).cells ({ frames := 3, cells := 1, slots := 4, locals := 43 } : Room).slots) := by
  refine MetFree.of_bodySF (plainFor_of_name pn_3) hisR ?_
  intro p e s m args below meth c s₁ Bd hml0 hP hK
  obtain ⟨rfl, hZ, hh⟩ := hP
  have hx := Bd.exec
  have hby := Bd.bytes
  have hml : c.maxLocals = 2 := hml0
  have hown : s.vm.findClass "com/example/zenodotus/zenodotus/engine/FamilyStatus" = some m.cls := findClass_of_methodNamed Bd.named
  have hnm := (name_of_methodNamed Bd.named Bd.method).1
  have X0 : Stand p l e ({ frames := 3, cells := 1, slots := 4, locals := 43 } : Room) s m #[(.ref o0_), (.ref o1_)] below meth c s₁ [] 0 0 := Stand.of_body Bd
  have e0 : s₁.heap = h0 := by rw [← hh, Bd.state]; rfl
  have N0 := Fr.nil n0
  have pre0 : ∀ t, Steps p.tables e below (s₁.setTop (mkF m 0 #[.val (.ref o0_), .val (.ref o1_)] [])) t → Steps p.tables e below (s₁.setTop (entryFrame m #[(.ref o0_), (.ref o1_)] 2)) t := fun t k => castTop (efplus16 m o0_ o1_) k
  have K0 : Keep h0 h0 [] := Keep.refl _ _
  obtain ⟨T1, h1, X1, e1, E1, A1, D1, -, st1⟩ := newO X0 hx hZ hown (hw _ (List.mem_of_getElem? (i := 55) rfl)) (hw _ (List.mem_of_getElem? (i := 31) rfl)) (hw _ (List.mem_of_getElem? (i := 32) rfl)) e0 (g := (mkF m 0 #[.val (.ref o0_), .val (.ref o1_)] [])) rfl (hb hby d8_0) (by decide) (by decide)
  obtain ⟨b1, g1⟩ : ∃ z, z = h0.size := ⟨_, rfl⟩
  rw [← g1] at A1 D1 st1
  have ge2 : n0 ≤ b1 := Nat.le_trans (Nat.le_trans (Nat.le_of_eq O0.1.symm) O0.2.1) (Nat.le_of_eq g1.symm)
  have sz3 : h0.size ≤ b1 := Nat.le_trans K0.1 (Nat.le_of_eq g1.symm)
  have f4 : Fld Z h1 b1 "com/example/zenodotus/zenodotus/engine/FamilyStatus" "family" "Ljava/lang/String;" .null := D1 (Or.inr (hw _ (List.mem_of_getElem? (i := 43) rfl))) (ty := (.object "java/lang/String")) (by decide)
  have f5 : Fld Z h1 b1 "com/example/zenodotus/zenodotus/engine/FamilyStatus" "storeFiles" "I" (.int (0 : Int32)) := D1 (Or.inr (hw _ (List.mem_of_getElem? (i := 45) rfl))) (ty := .int) (by decide)
  have f6 : Fld Z h1 b1 "com/example/zenodotus/zenodotus/engine/FamilyStatus" "storeCells" "J" (.long (0 : Int64)) := D1 (Or.inr (hw _ (List.mem_of_getElem? (i := 47) rfl))) (ty := .long) (by decide)
  have f7 : Fld Z h1 b1 "com/example/zenodotus/zenodotus/engine/FamilyStatus" "memoryCells" "J" (.long (0 : Int64)) := D1 (Or.inr (hw _ (List.mem_of_getElem? (i := 49) rfl))) (ty := .long) (by decide)
  have f8 : Fld Z h1 o0_ "com/example/zenodotus/zenodotus/engine/FamilyStatus" "family" "Ljava/lang/String;" (.ref o2_) := P1.ext E1
  obtain ⟨T9, X9, e9, st9⟩ := getF X1 hx hZ hown (host := "") (Or.inl (hw _ (List.mem_of_getElem? (i := 42) rfl))) Via.refl e1 f8 (g := (mkF m 5 #[.val (.ref o0_), .val (.ref o1_)] [(.ref o0_), (.ref b1), (.ref b1)])) rfl rfl (hb hby d8_5)
  have f10 : Fld Z h1 o0_ "com/example/zenodotus/zenodotus/engine/FamilyStatus" "storeFiles" "I" (.int x0_) := P2.ext E1
  obtain ⟨T11, X11, e11, st11⟩ := getF X9 hx hZ hown (host := "") (Or.inl (hw _ (List.mem_of_getElem? (i := 44) rfl))) Via.refl e9 f10 (g := (mkF m 9 #[.val (.ref o0_), .val (.ref o1_)] [(.ref o0_), (.ref o2_), (.ref b1), (.ref b1)])) rfl rfl (hb hby d8_9)
  have f12 : Fld Z h1 o1_ "com/example/zenodotus/zenodotus/engine/FamilyStatus" "storeFiles" "I" (.int x3_) := P7.ext E1
  obtain ⟨T13, X13, e13, st13⟩ := getF X11 hx hZ hown (host := "") (Or.inl (hw _ (List.mem_of_getElem? (i := 44) rfl))) Via.refl e11 f12 (g := (mkF m 13 #[.val (.ref o0_), .val (.ref o1_)] [(.ref o1_), (.int x0_), (.ref o2_), (.ref b1), (.ref b1)])) rfl rfl (hb hby d8_13)
  have f14 : Fld Z h1 o0_ "com/example/zenodotus/zenodotus/engine/FamilyStatus" "storeCells" "J" (.long y1_) := P3.ext E1
  obtain ⟨T15, X15, e15, st15⟩ := getF X13 hx hZ hown (host := "") (Or.inl (hw _ (List.mem_of_getElem? (i := 46) rfl))) Via.refl e13 f14 (g := (mkF m 18 #[.val (.ref o0_), .val (.ref o1_)] [(.ref o0_), (.int (x0_ + x3_)), (.ref o2_), (.ref b1), (.ref b1)])) rfl rfl (hb hby d8_18)
  have f16 : Fld Z h1 o1_ "com/example/zenodotus/zenodotus/engine/FamilyStatus" "storeCells" "J" (.long y4_) := P8.ext E1
  obtain ⟨T17, X17, e17, st17⟩ := getF X15 hx hZ hown (host := "") (Or.inl (hw _ (List.mem_of_getElem? (i := 46) rfl))) Via.refl e15 f16 (g := (mkF m 22 #[.val (.ref o0_), .val (.ref o1_)] [(.ref o1_), (.long y1_), (.int (x0_ + x3_)), (.ref o2_), (.ref b1), (.ref b1)])) rfl rfl (hb hby d8_22)
  have f18 : Fld Z h1 o0_ "com/example/zenodotus/zenodotus/engine/FamilyStatus" "memoryCells" "J" (.long y2_) := P4.ext E1
  obtain ⟨T19, X19, e19, st19⟩ := getF X17 hx hZ hown (host := "") (Or.inl (hw _ (List.mem_of_getElem? (i := 48) rfl))) Via.refl e17 f18 (g := (mkF m 27 #[.val (.ref o0_), .val (.ref o1_)] [(.ref o0_), (.long (y1_ + y4_)), (.int (x0_ + x3_)), (.ref o2_), (.ref b1), (.ref b1)])) rfl rfl (hb hby d8_27)
  have f20 : Fld Z h1 o1_ "com/example/zenodotus/zenodotus/engine/FamilyStatus" "memoryCells" "J" (.long y5_) := P9.ext E1
  obtain ⟨T21, X21, e21, st21⟩ := getF X19 hx hZ hown (host := "") (Or.inl (hw _ (List.mem_of_getElem? (i := 48) rfl))) Via.refl e19 f20 (g := (mkF m 31 #[.val (.ref o0_), .val (.ref o1_)] [(.ref o1_), (.long y2_), (.long (y1_ + y4_)), (.int (x0_ + x3_)), (.ref o2_), (.ref b1), (.ref b1)])) rfl rfl (hb hby d8_31)
  have f23 : Exa Z h1 o2_ "java/lang/String" := P10.ext E1
  have f24 : Fld Z h1 o2_ "java/lang/String" "coder" "B" (.int (0 : Int32)) := P11.ext E1
  have f25 : Fld Z h1 o2_ "java/lang/String" "value" "[B" (.ref o4_) := P12.ext E1
  have f26 : Arv Z h1 o4_ ko4_ .byte (2 : Int32) [(.int x6_), (.int x7_)] (.int (0 : Int32)) := P16.ext E1
  have f27 : Exa Z h1 o4_ "[B" := P17.ext E1
  have f28 : Old Z n0 h1 := O0.ext E1
  obtain ⟨_, _, ⟨T22, L22, k22, n22⟩, -, X22, ⟨Lc22, hQ22, l22, y22, z22⟩, st22⟩ := X21.specialBack hx (y := (⟨"com/example/zenodotus/zenodotus/engine/FamilyStatus", "<init>", "(Ljava/lang/String;IJJ)V"⟩ : MethodName)) rfl hown (mvT hZ (hw _ (List.mem_of_getElem? (i := 56) rfl))) (mvT hZ (hw _ (List.mem_of_getElem? (i := 34) rfl))) (mvT hZ (hw _ (List.mem_of_getElem? (i := 35) rfl))) (by decide) (backOf (W := 1) (rminit13 l Z a0 hw [] b1 o2_ (x0_ + x3_) (y1_ + y4_) (y2_ + y5_) o4_ ko4_ x6_ x7_ h1 n0 f28 A1 f4 f5 f6 f7 f23 f24 f25 f26 f27 ge2) hZ (hw _ (List.mem_of_getElem? (i := 35) rfl)) (hw _ (List.mem_of_getElem? (i := 32) rfl)) (by decide) (by decide)) (g := (mkF m 35 #[.val (.ref o0_), .val (.ref o1_)] [(.long (y2_ + y5_)), (.long (y1_ + y4_)), (.int (x0_ + x3_)), (.ref o2_), (.ref b1), (.ref b1)])) rfl (by rw [hml]; rfl) (Steps.refl _) (a := b1) (argsL := [(.ref o2_), (.int (x0_ + x3_)), (.long (y1_ + y4_)), (.long (y2_ + y5_))]) (rest := [(.ref b1)]) (lenOf pd_6 rfl) rfl (by show 2 * 0 + _ ≤ _; exact Nat.le_of_eq rfl) (hb hby d8_35) (fun _ _ => ⟨rfl, e21, (by decide : 1 + 0 ≤ _), (by decide : 4 + 0 ≤ _)⟩)
  dsimp only [Pt.U, Pt.locs, Pt.cells, Pt.slots] at X22 l22 y22 z22 st22 hQ22
  subst l22 y22 z22
  obtain ⟨h22, e22⟩ : ∃ z, T22.heap = z := ⟨_, rfl⟩
  rw [e22] at hQ22
  obtain ⟨rfl, N22q, K22, g22_0, g22_1, g22_2, g22_3, g22_4⟩ := hQ22
  have N29 := Fr.app N0 N22q
  have pre30 : ∀ t, Steps p.tables e below (T22.setTop (mkF m 38 #[.val (.ref o0_), .val (.ref o1_)] [(.ref b1)])) t → Steps p.tables e below (s₁.setTop (entryFrame m #[(.ref o0_), (.ref o1_)] 2)) t := by
    intro t kt
    refine pre0 t ?_
    show Steps p.tables e below (s₁.setTop (mkF m 0 #[.val (.ref o0_), .val (.ref o1_)] [])) _
    refine st1 _ ?_
    show Steps p.tables e below (T1.setTop (mkF m 3 #[.val (.ref o0_), .val (.ref o1_)] [(.ref b1)])) _
    refine XS.dup X1.here hx rfl (hb hby d8_3) rfl rfl ?_
    show Steps p.tables e below (T1.setTop (mkF m 4 #[.val (.ref o0_), .val (.ref o1_)] [(.ref b1), (.ref b1)])) _
    refine XS.aloadN X1.here hx rfl (hb hby d8_4) rfl rfl ?_
    show Steps p.tables e below (T1.setTop (mkF m 5 #[.val (.ref o0_), .val (.ref o1_)] [(.ref o0_), (.ref b1), (.ref b1)])) _
    refine st9 _ ?_
    show Steps p.tables e below (T9.setTop (mkF m 8 #[.val (.ref o0_), .val (.ref o1_)] [(.ref o2_), (.ref b1), (.ref b1)])) _
    refine XS.aloadN X9.here hx rfl (hb hby d8_8) rfl rfl ?_
    show Steps p.tables e below (T9.setTop (mkF m 9 #[.val (.ref o0_), .val (.ref o1_)] [(.ref o0_), (.ref o2_), (.ref b1), (.ref b1)])) _
    refine st11 _ ?_
    show Steps p.tables e below (T11.setTop (mkF m 12 #[.val (.ref o0_), .val (.ref o1_)] [(.int x0_), (.ref o2_), (.ref b1), (.ref b1)])) _
    refine XS.aloadN X11.here hx rfl (hb hby d8_12) rfl rfl ?_
    show Steps p.tables e below (T11.setTop (mkF m 13 #[.val (.ref o0_), .val (.ref o1_)] [(.ref o1_), (.int x0_), (.ref o2_), (.ref b1), (.ref b1)])) _
    refine st13 _ ?_
    show Steps p.tables e below (T13.setTop (mkF m 16 #[.val (.ref o0_), .val (.ref o1_)] [(.int x3_), (.int x0_), (.ref o2_), (.ref b1), (.ref b1)])) _
    refine XS.iadd X13.here hx rfl (hb hby d8_16) rfl ?_
    show Steps p.tables e below (T13.setTop (mkF m 17 #[.val (.ref o0_), .val (.ref o1_)] [(.int (x0_ + x3_)), (.ref o2_), (.ref b1), (.ref b1)])) _
    refine XS.aloadN X13.here hx rfl (hb hby d8_17) rfl rfl ?_
    show Steps p.tables e below (T13.setTop (mkF m 18 #[.val (.ref o0_), .val (.ref o1_)] [(.ref o0_), (.int (x0_ + x3_)), (.ref o2_), (.ref b1), (.ref b1)])) _
    refine st15 _ ?_
    show Steps p.tables e below (T15.setTop (mkF m 21 #[.val (.ref o0_), .val (.ref o1_)] [(.long y1_), (.int (x0_ + x3_)), (.ref o2_), (.ref b1), (.ref b1)])) _
    refine XS.aloadN X15.here hx rfl (hb hby d8_21) rfl rfl ?_
    show Steps p.tables e below (T15.setTop (mkF m 22 #[.val (.ref o0_), .val (.ref o1_)] [(.ref o1_), (.long y1_), (.int (x0_ + x3_)), (.ref o2_), (.ref b1), (.ref b1)])) _
    refine st17 _ ?_
    show Steps p.tables e below (T17.setTop (mkF m 25 #[.val (.ref o0_), .val (.ref o1_)] [(.long y4_), (.long y1_), (.int (x0_ + x3_)), (.ref o2_), (.ref b1), (.ref b1)])) _
    refine XS.ladd X17.here hx rfl (hb hby d8_25) rfl ?_
    show Steps p.tables e below (T17.setTop (mkF m 26 #[.val (.ref o0_), .val (.ref o1_)] [(.long (y1_ + y4_)), (.int (x0_ + x3_)), (.ref o2_), (.ref b1), (.ref b1)])) _
    refine XS.aloadN X17.here hx rfl (hb hby d8_26) rfl rfl ?_
    show Steps p.tables e below (T17.setTop (mkF m 27 #[.val (.ref o0_), .val (.ref o1_)] [(.ref o0_), (.long (y1_ + y4_)), (.int (x0_ + x3_)), (.ref o2_), (.ref b1), (.ref b1)])) _
    refine st19 _ ?_
    show Steps p.tables e below (T19.setTop (mkF m 30 #[.val (.ref o0_), .val (.ref o1_)] [(.long y2_), (.long (y1_ + y4_)), (.int (x0_ + x3_)), (.ref o2_), (.ref b1), (.ref b1)])) _
    refine XS.aloadN X19.here hx rfl (hb hby d8_30) rfl rfl ?_
    show Steps p.tables e below (T19.setTop (mkF m 31 #[.val (.ref o0_), .val (.ref o1_)] [(.ref o1_), (.long y2_), (.long (y1_ + y4_)), (.int (x0_ + x3_)), (.ref o2_), (.ref b1), (.ref b1)])) _
    refine st21 _ ?_
    show Steps p.tables e below (T21.setTop (mkF m 34 #[.val (.ref o0_), .val (.ref o1_)] [(.long y5_), (.long y2_), (.long (y1_ + y4_)), (.int (x0_ + x3_)), (.ref o2_), (.ref b1), (.ref b1)])) _
    refine XS.ladd X21.here hx rfl (hb hby d8_34) rfl ?_
    show Steps p.tables e below (T21.setTop (mkF m 35 #[.val (.ref o0_), .val (.ref o1_)] [(.long (y2_ + y5_)), (.long (y1_ + y4_)), (.int (x0_ + x3_)), (.ref o2_), (.ref b1), (.ref b1)])) _
    refine st22.trans ?_
    exact kt
  have f32 : Keep h0 h1 [] := K0.ext E1
  have f33 : Keep h0 h22 [] := f32.trans K22 (allS (Or.inr sz3) all0)
  obtain ⟨fs, hr, hrun, hended, hW, hsame⟩ := X22.leave (v := some (.ref b1)) (fun h => by rw [Bd.returns] at h; cases h)
  refine ⟨_, _, pre30 _ (retOut X22 hx Bd.returns rfl (Or.inr (Or.inr (Or.inr (Or.inr ⟨rfl, rfl, rfl⟩)))) (hb hby d8_38) hr), hrun, hended, _, _, rfl, ?_, ⟨_, rfl⟩, hW, hsame.mono (by decide) (by decide)⟩
  show Qplus16 Z o0_ o1_ o2_ x0_ y1_ y2_ o3_ x3_ y4_ y5_ o4_ o5_ ko4_ x6_ x7_ ko5_ x8_ h0 n0 _ T22.heap _
  rw [e22]
  exact ⟨b1, rfl, N29, f33, sz3, g22_0, g22_1, g22_2, g22_3, g22_4⟩
theorem pd_7 : parseMethodDescriptor "(Lcom/example/zenodotus/zenodotus/engine/FamilyStatus;)Lcom/example/zenodotus/zenodotus/engine/FamilyStatus;" = some ⟨[(.object "com/example/zenodotus/zenodotus/engine/FamilyStatus")], some (.object "com/example/zenodotus/zenodotus/engine/FamilyStatus")⟩ := by decide +kernel
theorem d9_0 : decode prog_9_method_6_code 0 = .ok (.aload_n 0, 1) := by decide +kernel
theorem d9_1 : decode prog_9_method_6_code 1 = .ok (.getfield 7, 3) := by decide +kernel
theorem d9_4 : decode prog_9_method_6_code 4 = .ok (.areturn, 1) := by decide +kernel
theorem effamily17 (m : MethodId) (o0_ : Addr) : entryFrame m #[(.ref o0_)] 1 = mkF m 0 #[.val (.ref o0_)] [] := by first | (simp [entryFrame, mkF, argsToLocals, Value.category]; done) | rfl
def Qfamily17 (Z : State) (o0_ : Addr) (o1_ : Addr) (x0_ : Int32) (y1_ : Int64) (y2_ : Int64) (o2_ : Addr) (ko2_ : ClassId) (x3_ : Int32) (x4_ : Int32) (h0 : Heap) (n0 : Nat) (v : Option Value) (h : Heap) (L : List Loc) : Prop := v = some (.ref o1_) ∧ Fr n0 L ∧ h = h0
set_option maxRecDepth 65536 in
set_option maxHeartbeats 40000000 in
theorem rmfamily17 (l : Launch) (Z : State) (a0 : Array Value) (hw : ∀ d ∈ tables_1, d.before a0 Z = true) (ws : List Jvm.Cond) (o0_ : Addr) (o1_ : Addr) (x0_ : Int32) (y1_ : Int64) (y2_ : Int64) (o2_ : Addr) (ko2_ : ClassId) (x3_ : Int32) (x4_ : Int32) (h0 : Heap) (n0 : Nat) (O0 : Old Z n0 h0) (P0 : Exa Z h0 o0_ "com/example/zenodotus/zenodotus/engine/FamilyStatus") (P1 : Fld Z h0 o0_ "com/example/zenodotus/zenodotus/engine/FamilyStatus" "family" "Ljava/lang/String;" (.ref o1_)) (P2 : Fld Z h0 o0_ "com/example/zenodotus/zenodotus/engine/FamilyStatus" "storeFiles" "I" (.int x0_)) (P3 : Fld Z h0 o0_ "com/example/zenodotus/zenodotus/engine/FamilyStatus" "storeCells" "J" (.long y1_)) (P4 : Fld Z h0 o0_ "com/example/zenodotus/zenodotus/engine/FamilyStatus" "memoryCells" "J" (.long y2_)) (P5 : Exa Z h0 o1_ "java/lang/String") (P6 : Fld Z h0 o1_ "java/lang/String" "coder" "B" (.int (0 : Int32))) (P7 : Fld Z h0 o1_ "java/lang/String" "value" "[B" (.ref o2_)) (P8 : Arv Z h0 o2_ ko2_ .byte (2 : Int32) [(.int x3_), (.int x4_)] (.int (0 : Int32))) (P9 : Exa Z h0 o2_ "[B") :
    MetFree l (⟨"com/example/zenodotus/zenodotus/engine/FamilyStatus", "family", "()Ljava/lang/String;"⟩ : MethodName) (head1 (Jvm.Cond.code (⟨"com/example/zenodotus/zenodotus/engine/FamilyStatus", "family", "()Ljava/lang/String;"⟩ : MethodName) prog_9_method_6_code 1 (some (.object "java/lang/String")) :: ws) ({ frames := 0, cells := 0, slots := 0, locals := 0 } : Room)) (fun a U => a = #[(.ref o0_)] ∧ Z.Warmed39 U.vm ∧ U.heap = h0) (fun _ _ _ _ _ => True) (fun _ U o U' => ∃ v L, o = .returned v ∧ Qfamily17 Z o0_ o1_ x0_ y1_ y2_ o2_ ko2_ x3_ x4_ h0 n0 v U'.heap L ∧ FrameEnd U o U' L ({ frames := 0, cells := 0, slots := 0, locals := 0 } : Room).cells ({ frames := 0, cells := 0, slots := 0, locals := 0 } : Room).slots) := by
  refine MetFree.of_bodySF (plainFor_of_name pn_3) hisR ?_
  intro p e s m args below meth c s₁ Bd hml0 hP hK
  obtain ⟨rfl, hZ, hh⟩ := hP
  have hx := Bd.exec
  have hby := Bd.bytes
  have hml : c.maxLocals = 1 := hml0
  have hown : s.vm.findClass "com/example/zenodotus/zenodotus/engine/FamilyStatus" = some m.cls := findClass_of_methodNamed Bd.named
  have hnm := (name_of_methodNamed Bd.named Bd.method).1
  have X0 : Stand p l e ({ frames := 0, cells := 0, slots := 0, locals := 0 } : Room) s m #[(.ref o0_)] below meth c s₁ [] 0 0 := Stand.of_body Bd
  have e0 : s₁.heap = h0 := by rw [← hh, Bd.state]; rfl
  have N0 := Fr.nil n0
  have pre0 : ∀ t, Steps p.tables e below (s₁.setTop (mkF m 0 #[.val (.ref o0_)] [])) t → Steps p.tables e below (s₁.setTop (entryFrame m #[(.ref o0_)] 1)) t := fun t k => castTop (effamily17 m o0_) k
  have K0 : Keep h0 h0 [] := Keep.refl _ _
  obtain ⟨T1, X1, e1, st1⟩ := getF X0 hx hZ hown (host := "") (Or.inl (hw _ (List.mem_of_getElem? (i := 42) rfl))) Via.refl e0 P1 (g := (mkF m 1 #[.val (.ref o0_)] [(.ref o0_)])) rfl rfl (hb hby d9_1)
  have pre2 : ∀ t, Steps p.tables e below (T1.setTop (mkF m 4 #[.val (.ref o0_)] [(.ref o1_)])) t → Steps p.tables e below (s₁.setTop (entryFrame m #[(.ref o0_)] 1)) t := by
    intro t kt
    refine pre0 t ?_
    show Steps p.tables e below (s₁.setTop (mkF m 0 #[.val (.ref o0_)] [])) _
    refine XS.aloadN X0.here hx rfl (hb hby d9_0) rfl rfl ?_
    show Steps p.tables e below (s₁.setTop (mkF m 1 #[.val (.ref o0_)] [(.ref o0_)])) _
    refine st1 _ ?_
    exact kt
  obtain ⟨fs, hr, hrun, hended, hW, hsame⟩ := X1.leave (v := some (.ref o1_)) (fun h => by rw [Bd.returns] at h; cases h)
  refine ⟨_, _, pre2 _ (retOut X1 hx Bd.returns rfl (Or.inr (Or.inr (Or.inr (Or.inr ⟨rfl, rfl, rfl⟩)))) (hb hby d9_4) hr), hrun, hended, _, _, rfl, ?_, ⟨_, rfl⟩, hW, hsame.mono (by decide) (by decide)⟩
  show Qfamily17 Z o0_ o1_ x0_ y1_ y2_ o2_ ko2_ x3_ x4_ h0 n0 _ T1.heap _
  rw [e1]
  exact ⟨rfl, N0, rfl⟩
theorem pd_8 : parseMethodDescriptor "()Ljava/lang/String;" = some ⟨[], some (.object "java/lang/String")⟩ := by decide +kernel
theorem d10_0 : decode jdk_42_method_66_code 0 = .ok (.aload_n 0, 1) := by decide +kernel
theorem d10_1 : decode jdk_42_method_66_code 1 = .ok (.aload_n 1, 1) := by decide +kernel
theorem d10_2 : decode jdk_42_method_66_code 2 = .ok (.if_acmp .ne 5, 3) := by decide +kernel
theorem d10_5 : decode jdk_42_method_66_code 5 = .ok (.iconst 1, 1) := by decide +kernel
theorem d10_6 : decode jdk_42_method_66_code 6 = .ok (.ireturn, 1) := by decide +kernel
theorem efequals18 (m : MethodId) (o0_ : Addr) : entryFrame m #[(.ref o0_), (.ref o0_)] 3 = mkF m 0 #[.val (.ref o0_), .val (.ref o0_), .unset] [] := by first | (simp [entryFrame, mkF, argsToLocals, Value.category]; done) | rfl
def Qequals18 (Z : State) (o0_ : Addr) (o1_ : Addr) (ko1_ : ClassId) (x0_ : Int32) (x1_ : Int32) (h0 : Heap) (n0 : Nat) (v : Option Value) (h : Heap) (L : List Loc) : Prop := v = some (.int (1 : Int32)) ∧ Fr n0 L ∧ h = h0
set_option maxRecDepth 65536 in
set_option maxHeartbeats 40000000 in
theorem rmequals18 (l : Launch) (Z : State) (a0 : Array Value) (hw : ∀ d ∈ tables_1, d.before a0 Z = true) (ws : List Jvm.Cond) (o0_ : Addr) (o1_ : Addr) (ko1_ : ClassId) (x0_ : Int32) (x1_ : Int32) (h0 : Heap) (n0 : Nat) (O0 : Old Z n0 h0) (P0 : Exa Z h0 o0_ "java/lang/String") (P1 : Fld Z h0 o0_ "java/lang/String" "coder" "B" (.int (0 : Int32))) (P2 : Fld Z h0 o0_ "java/lang/String" "value" "[B" (.ref o1_)) (P3 : Arv Z h0 o1_ ko1_ .byte (2 : Int32) [(.int x0_), (.int x1_)] (.int (0 : Int32))) (P4 : Exa Z h0 o1_ "[B") :
    MetFree l (⟨"java/lang/String", "equals", "(Ljava/lang/Object;)Z"⟩ : MethodName) (head1 (Jvm.Cond.code (⟨"java/lang/String", "equals", "(Ljava/lang/Object;)Z"⟩ : MethodName) jdk_42_method_66_code 3 (some .boolean) :: ws) ({ frames := 0, cells := 0, slots := 0, locals := 0 } : Room)) (fun a U => a = #[(.ref o0_), (.ref o0_)] ∧ Z.Warmed39 U.vm ∧ U.heap = h0) (fun _ _ _ _ _ => True) (fun _ U o U' => ∃ v L, o = .returned v ∧ Qequals18 Z o0_ o1_ ko1_ x0_ x1_ h0 n0 v U'.heap L ∧ FrameEnd U o U' L ({ frames := 0, cells := 0, slots := 0, locals := 0 } : Room).cells ({ frames := 0, cells := 0, slots := 0, locals := 0 } : Room).slots) := by
  refine MetFree.of_bodySF (plainFor_of_name pn_1) hisR ?_
  intro p e s m args below meth c s₁ Bd hml0 hP hK
  obtain ⟨rfl, hZ, hh⟩ := hP
  have hx := Bd.exec
  have hby := Bd.bytes
  have hml : c.maxLocals = 3 := hml0
  have hown : s.vm.findClass "java/lang/String" = some m.cls := findClass_of_methodNamed Bd.named
  have hnm := (name_of_methodNamed Bd.named Bd.method).1
  have X0 : Stand p l e ({ frames := 0, cells := 0, slots := 0, locals := 0 } : Room) s m #[(.ref o0_), (.ref o0_)] below meth c s₁ [] 0 0 := Stand.of_body Bd
  have e0 : s₁.heap = h0 := by rw [← hh, Bd.state]; rfl
  have N0 := Fr.nil n0
  have pre0 : ∀ t, Steps p.tables e below (s₁.setTop (mkF m 0 #[.val (.ref o0_), .val (.ref o0_), .unset] [])) t → Steps p.tables e below (s₁.setTop (entryFrame m #[(.ref o0_), (.ref o0_)] 3)) t := fun t k => castTop (efequals18 m o0_) k
  have K0 : Keep h0 h0 [] := Keep.refl _ _
  have pre1 : ∀ t, Steps p.tables e below (s₁.setTop (mkF m 6 #[.val (.ref o0_), .val (.ref o0_), .unset] [(.int (1 : Int32))])) t → Steps p.tables e below (s₁.setTop (entryFrame m #[(.ref o0_), (.ref o0_)] 3)) t := by
    intro t kt
    refine pre0 t ?_
    show Steps p.tables e below (s₁.setTop (mkF m 0 #[.val (.ref o0_), .val (.ref o0_), .unset] [])) _
    refine XS.aloadN X0.here hx rfl (hb hby d10_0) rfl rfl ?_
    show Steps p.tables e below (s₁.setTop (mkF m 1 #[.val (.ref o0_), .val (.ref o0_), .unset] [(.ref o0_)])) _
    refine XS.aloadN X0.here hx rfl (hb hby d10_1) rfl rfl ?_
    show Steps p.tables e below (s₁.setTop (mkF m 2 #[.val (.ref o0_), .val (.ref o0_), .unset] [(.ref o0_), (.ref o0_)])) _
    refine Jvm.RoadKit.acmp (g := (mkF m 2 #[.val (.ref o0_), .val (.ref o0_), .unset] [(.ref o0_), (.ref o0_)])) X0 hx rfl rfl rfl (pc0 := 2) (pc' := 5) (same := true) rfl (hb hby d10_2) rfl (decide_eq_true rfl) (by decide) (by decide) ?_
    show Steps p.tables e below (s₁.setTop (mkF m 5 #[.val (.ref o0_), .val (.ref o0_), .unset] [])) _
    refine XS.iconst X0.here hx rfl (hb hby d10_5) ?_
    exact kt
  obtain ⟨fs, hr, hrun, hended, hW, hsame⟩ := X0.leave (v := some (.int (1 : Int32))) (fun h => by rw [Bd.returns] at h; cases h)
  refine ⟨_, _, pre1 _ (retN X0 hx (t := .boolean) Bd.returns (by simp) (hb hby d10_6) hr), hrun, hended, _, _, rfl, ?_, ⟨_, rfl⟩, hW, hsame.mono (by decide) (by decide)⟩
  show Qequals18 Z o0_ o1_ ko1_ x0_ x1_ h0 n0 _ s₁.heap _
  rw [e0]
  exact ⟨rfl, N0, rfl⟩
theorem pd_9 : parseMethodDescriptor "(Ljava/lang/Object;)Z" = some ⟨[(.object "java/lang/Object")], some .boolean⟩ := by decide +kernel
theorem d11_0 : decode prog_9_method_7_code 0 = .ok (.aload_n 0, 1) := by decide +kernel
theorem d11_1 : decode prog_9_method_7_code 1 = .ok (.getfield 13, 3) := by decide +kernel
theorem d11_4 : decode prog_9_method_7_code 4 = .ok (.ireturn, 1) := by decide +kernel
theorem efstoreFiles19 (m : MethodId) (o0_ : Addr) : entryFrame m #[(.ref o0_)] 1 = mkF m 0 #[.val (.ref o0_)] [] := by first | (simp [entryFrame, mkF, argsToLocals, Value.category]; done) | rfl
def QstoreFiles19 (Z : State) (o0_ : Addr) (o1_ : Addr) (x0_ : Int32) (y1_ : Int64) (y2_ : Int64) (o2_ : Addr) (ko2_ : ClassId) (x3_ : Int32) (x4_ : Int32) (h0 : Heap) (n0 : Nat) (v : Option Value) (h : Heap) (L : List Loc) : Prop := v = some (.int x0_) ∧ Fr n0 L ∧ h = h0
set_option maxRecDepth 65536 in
set_option maxHeartbeats 40000000 in
theorem rmstoreFiles19 (l : Launch) (Z : State) (a0 : Array Value) (hw : ∀ d ∈ tables_1, d.before a0 Z = true) (ws : List Jvm.Cond) (o0_ : Addr) (o1_ : Addr) (x0_ : Int32) (y1_ : Int64) (y2_ : Int64) (o2_ : Addr) (ko2_ : ClassId) (x3_ : Int32) (x4_ : Int32) (h0 : Heap) (n0 : Nat) (O0 : Old Z n0 h0) (P0 : Exa Z h0 o0_ "com/example/zenodotus/zenodotus/engine/FamilyStatus") (P1 : Fld Z h0 o0_ "com/example/zenodotus/zenodotus/engine/FamilyStatus" "family" "Ljava/lang/String;" (.ref o1_)) (P2 : Fld Z h0 o0_ "com/example/zenodotus/zenodotus/engine/FamilyStatus" "storeFiles" "I" (.int x0_)) (P3 : Fld Z h0 o0_ "com/example/zenodotus/zenodotus/engine/FamilyStatus" "storeCells" "J" (.long y1_)) (P4 : Fld Z h0 o0_ "com/example/zenodotus/zenodotus/engine/FamilyStatus" "memoryCells" "J" (.long y2_)) (P5 : Exa Z h0 o1_ "java/lang/String") (P6 : Fld Z h0 o1_ "java/lang/String" "coder" "B" (.int (0 : Int32))) (P7 : Fld Z h0 o1_ "java/lang/String" "value" "[B" (.ref o2_)) (P8 : Arv Z h0 o2_ ko2_ .byte (2 : Int32) [(.int x3_), (.int x4_)] (.int (0 : Int32))) (P9 : Exa Z h0 o2_ "[B") :
    MetFree l (⟨"com/example/zenodotus/zenodotus/engine/FamilyStatus", "storeFiles", "()I"⟩ : MethodName) (head1 (Jvm.Cond.code (⟨"com/example/zenodotus/zenodotus/engine/FamilyStatus", "storeFiles", "()I"⟩ : MethodName) prog_9_method_7_code 1 (some .int) :: ws) ({ frames := 0, cells := 0, slots := 0, locals := 0 } : Room)) (fun a U => a = #[(.ref o0_)] ∧ Z.Warmed39 U.vm ∧ U.heap = h0) (fun _ _ _ _ _ => True) (fun _ U o U' => ∃ v L, o = .returned v ∧ QstoreFiles19 Z o0_ o1_ x0_ y1_ y2_ o2_ ko2_ x3_ x4_ h0 n0 v U'.heap L ∧ FrameEnd U o U' L ({ frames := 0, cells := 0, slots := 0, locals := 0 } : Room).cells ({ frames := 0, cells := 0, slots := 0, locals := 0 } : Room).slots) := by
  refine MetFree.of_bodySF (plainFor_of_name pn_3) hisR ?_
  intro p e s m args below meth c s₁ Bd hml0 hP hK
  obtain ⟨rfl, hZ, hh⟩ := hP
  have hx := Bd.exec
  have hby := Bd.bytes
  have hml : c.maxLocals = 1 := hml0
  have hown : s.vm.findClass "com/example/zenodotus/zenodotus/engine/FamilyStatus" = some m.cls := findClass_of_methodNamed Bd.named
  have hnm := (name_of_methodNamed Bd.named Bd.method).1
  have X0 : Stand p l e ({ frames := 0, cells := 0, slots := 0, locals := 0 } : Room) s m #[(.ref o0_)] below meth c s₁ [] 0 0 := Stand.of_body Bd
  have e0 : s₁.heap = h0 := by rw [← hh, Bd.state]; rfl
  have N0 := Fr.nil n0
  have pre0 : ∀ t, Steps p.tables e below (s₁.setTop (mkF m 0 #[.val (.ref o0_)] [])) t → Steps p.tables e below (s₁.setTop (entryFrame m #[(.ref o0_)] 1)) t := fun t k => castTop (efstoreFiles19 m o0_) k
  have K0 : Keep h0 h0 [] := Keep.refl _ _
  obtain ⟨T1, X1, e1, st1⟩ := getF X0 hx hZ hown (host := "") (Or.inl (hw _ (List.mem_of_getElem? (i := 44) rfl))) Via.refl e0 P2 (g := (mkF m 1 #[.val (.ref o0_)] [(.ref o0_)])) rfl rfl (hb hby d11_1)
  have pre2 : ∀ t, Steps p.tables e below (T1.setTop (mkF m 4 #[.val (.ref o0_)] [(.int x0_)])) t → Steps p.tables e below (s₁.setTop (entryFrame m #[(.ref o0_)] 1)) t := by
    intro t kt
    refine pre0 t ?_
    show Steps p.tables e below (s₁.setTop (mkF m 0 #[.val (.ref o0_)] [])) _
    refine XS.aloadN X0.here hx rfl (hb hby d11_0) rfl rfl ?_
    show Steps p.tables e below (s₁.setTop (mkF m 1 #[.val (.ref o0_)] [(.ref o0_)])) _
    refine st1 _ ?_
    exact kt
  obtain ⟨fs, hr, hrun, hended, hW, hsame⟩ := X1.leave (v := some (.int x0_)) (fun h => by rw [Bd.returns] at h; cases h)
  refine ⟨_, _, pre2 _ (retOut X1 hx Bd.returns rfl (Or.inl ⟨rfl, Or.inl rfl, _, rfl⟩) (hb hby d11_4) hr), hrun, hended, _, _, rfl, ?_, ⟨_, rfl⟩, hW, hsame.mono (by decide) (by decide)⟩
  show QstoreFiles19 Z o0_ o1_ x0_ y1_ y2_ o2_ ko2_ x3_ x4_ h0 n0 _ T1.heap _
  rw [e1]
  exact ⟨rfl, N0, rfl⟩
theorem pd_10 : parseMethodDescriptor "()I" = some ⟨[], some .int⟩ := by decide +kernel
theorem d12_0 : decode prog_9_method_8_code 0 = .ok (.aload_n 0, 1) := by decide +kernel
theorem d12_1 : decode prog_9_method_8_code 1 = .ok (.getfield 17, 3) := by decide +kernel
theorem d12_4 : decode prog_9_method_8_code 4 = .ok (.lreturn, 1) := by decide +kernel
theorem efstoreCells20 (m : MethodId) (o0_ : Addr) : entryFrame m #[(.ref o0_)] 1 = mkF m 0 #[.val (.ref o0_)] [] := by first | (simp [entryFrame, mkF, argsToLocals, Value.category]; done) | rfl
def QstoreCells20 (Z : State) (o0_ : Addr) (o1_ : Addr) (x0_ : Int32) (y1_ : Int64) (y2_ : Int64) (o2_ : Addr) (ko2_ : ClassId) (x3_ : Int32) (x4_ : Int32) (h0 : Heap) (n0 : Nat) (v : Option Value) (h : Heap) (L : List Loc) : Prop := v = some (.long y1_) ∧ Fr n0 L ∧ h = h0
set_option maxRecDepth 65536 in
set_option maxHeartbeats 40000000 in
theorem rmstoreCells20 (l : Launch) (Z : State) (a0 : Array Value) (hw : ∀ d ∈ tables_1, d.before a0 Z = true) (ws : List Jvm.Cond) (o0_ : Addr) (o1_ : Addr) (x0_ : Int32) (y1_ : Int64) (y2_ : Int64) (o2_ : Addr) (ko2_ : ClassId) (x3_ : Int32) (x4_ : Int32) (h0 : Heap) (n0 : Nat) (O0 : Old Z n0 h0) (P0 : Exa Z h0 o0_ "com/example/zenodotus/zenodotus/engine/FamilyStatus") (P1 : Fld Z h0 o0_ "com/example/zenodotus/zenodotus/engine/FamilyStatus" "family" "Ljava/lang/String;" (.ref o1_)) (P2 : Fld Z h0 o0_ "com/example/zenodotus/zenodotus/engine/FamilyStatus" "storeFiles" "I" (.int x0_)) (P3 : Fld Z h0 o0_ "com/example/zenodotus/zenodotus/engine/FamilyStatus" "storeCells" "J" (.long y1_)) (P4 : Fld Z h0 o0_ "com/example/zenodotus/zenodotus/engine/FamilyStatus" "memoryCells" "J" (.long y2_)) (P5 : Exa Z h0 o1_ "java/lang/String") (P6 : Fld Z h0 o1_ "java/lang/String" "coder" "B" (.int (0 : Int32))) (P7 : Fld Z h0 o1_ "java/lang/String" "value" "[B" (.ref o2_)) (P8 : Arv Z h0 o2_ ko2_ .byte (2 : Int32) [(.int x3_), (.int x4_)] (.int (0 : Int32))) (P9 : Exa Z h0 o2_ "[B") :
    MetFree l (⟨"com/example/zenodotus/zenodotus/engine/FamilyStatus", "storeCells", "()J"⟩ : MethodName) (head1 (Jvm.Cond.code (⟨"com/example/zenodotus/zenodotus/engine/FamilyStatus", "storeCells", "()J"⟩ : MethodName) prog_9_method_8_code 1 (some .long) :: ws) ({ frames := 0, cells := 0, slots := 0, locals := 0 } : Room)) (fun a U => a = #[(.ref o0_)] ∧ Z.Warmed39 U.vm ∧ U.heap = h0) (fun _ _ _ _ _ => True) (fun _ U o U' => ∃ v L, o = .returned v ∧ QstoreCells20 Z o0_ o1_ x0_ y1_ y2_ o2_ ko2_ x3_ x4_ h0 n0 v U'.heap L ∧ FrameEnd U o U' L ({ frames := 0, cells := 0, slots := 0, locals := 0 } : Room).cells ({ frames := 0, cells := 0, slots := 0, locals := 0 } : Room).slots) := by
  refine MetFree.of_bodySF (plainFor_of_name pn_3) hisR ?_
  intro p e s m args below meth c s₁ Bd hml0 hP hK
  obtain ⟨rfl, hZ, hh⟩ := hP
  have hx := Bd.exec
  have hby := Bd.bytes
  have hml : c.maxLocals = 1 := hml0
  have hown : s.vm.findClass "com/example/zenodotus/zenodotus/engine/FamilyStatus" = some m.cls := findClass_of_methodNamed Bd.named
  have hnm := (name_of_methodNamed Bd.named Bd.method).1
  have X0 : Stand p l e ({ frames := 0, cells := 0, slots := 0, locals := 0 } : Room) s m #[(.ref o0_)] below meth c s₁ [] 0 0 := Stand.of_body Bd
  have e0 : s₁.heap = h0 := by rw [← hh, Bd.state]; rfl
  have N0 := Fr.nil n0
  have pre0 : ∀ t, Steps p.tables e below (s₁.setTop (mkF m 0 #[.val (.ref o0_)] [])) t → Steps p.tables e below (s₁.setTop (entryFrame m #[(.ref o0_)] 1)) t := fun t k => castTop (efstoreCells20 m o0_) k
  have K0 : Keep h0 h0 [] := Keep.refl _ _
  obtain ⟨T1, X1, e1, st1⟩ := getF X0 hx hZ hown (host := "") (Or.inl (hw _ (List.mem_of_getElem? (i := 46) rfl))) Via.refl e0 P3 (g := (mkF m 1 #[.val (.ref o0_)] [(.ref o0_)])) rfl rfl (hb hby d12_1)
  have pre2 : ∀ t, Steps p.tables e below (T1.setTop (mkF m 4 #[.val (.ref o0_)] [(.long y1_)])) t → Steps p.tables e below (s₁.setTop (entryFrame m #[(.ref o0_)] 1)) t := by
    intro t kt
    refine pre0 t ?_
    show Steps p.tables e below (s₁.setTop (mkF m 0 #[.val (.ref o0_)] [])) _
    refine XS.aloadN X0.here hx rfl (hb hby d12_0) rfl rfl ?_
    show Steps p.tables e below (s₁.setTop (mkF m 1 #[.val (.ref o0_)] [(.ref o0_)])) _
    refine st1 _ ?_
    exact kt
  obtain ⟨fs, hr, hrun, hended, hW, hsame⟩ := X1.leave (v := some (.long y1_)) (fun h => by rw [Bd.returns] at h; cases h)
  refine ⟨_, _, pre2 _ (retOut X1 hx Bd.returns rfl (Or.inr (Or.inl ⟨rfl, rfl, _, rfl⟩)) (hb hby d12_4) hr), hrun, hended, _, _, rfl, ?_, ⟨_, rfl⟩, hW, hsame.mono (by decide) (by decide)⟩
  show QstoreCells20 Z o0_ o1_ x0_ y1_ y2_ o2_ ko2_ x3_ x4_ h0 n0 _ T1.heap _
  rw [e1]
  exact ⟨rfl, N0, rfl⟩
theorem pd_11 : parseMethodDescriptor "()J" = some ⟨[], some .long⟩ := by decide +kernel
theorem d13_0 : decode prog_9_method_9_code 0 = .ok (.aload_n 0, 1) := by decide +kernel
theorem d13_1 : decode prog_9_method_9_code 1 = .ok (.getfield 21, 3) := by decide +kernel
theorem d13_4 : decode prog_9_method_9_code 4 = .ok (.lreturn, 1) := by decide +kernel
theorem efmemoryCells21 (m : MethodId) (o0_ : Addr) : entryFrame m #[(.ref o0_)] 1 = mkF m 0 #[.val (.ref o0_)] [] := by first | (simp [entryFrame, mkF, argsToLocals, Value.category]; done) | rfl
def QmemoryCells21 (Z : State) (o0_ : Addr) (o1_ : Addr) (x0_ : Int32) (y1_ : Int64) (y2_ : Int64) (o2_ : Addr) (ko2_ : ClassId) (x3_ : Int32) (x4_ : Int32) (h0 : Heap) (n0 : Nat) (v : Option Value) (h : Heap) (L : List Loc) : Prop := v = some (.long y2_) ∧ Fr n0 L ∧ h = h0
set_option maxRecDepth 65536 in
set_option maxHeartbeats 40000000 in
theorem rmmemoryCells21 (l : Launch) (Z : State) (a0 : Array Value) (hw : ∀ d ∈ tables_1, d.before a0 Z = true) (ws : List Jvm.Cond) (o0_ : Addr) (o1_ : Addr) (x0_ : Int32) (y1_ : Int64) (y2_ : Int64) (o2_ : Addr) (ko2_ : ClassId) (x3_ : Int32) (x4_ : Int32) (h0 : Heap) (n0 : Nat) (O0 : Old Z n0 h0) (P0 : Exa Z h0 o0_ "com/example/zenodotus/zenodotus/engine/FamilyStatus") (P1 : Fld Z h0 o0_ "com/example/zenodotus/zenodotus/engine/FamilyStatus" "family" "Ljava/lang/String;" (.ref o1_)) (P2 : Fld Z h0 o0_ "com/example/zenodotus/zenodotus/engine/FamilyStatus" "storeFiles" "I" (.int x0_)) (P3 : Fld Z h0 o0_ "com/example/zenodotus/zenodotus/engine/FamilyStatus" "storeCells" "J" (.long y1_)) (P4 : Fld Z h0 o0_ "com/example/zenodotus/zenodotus/engine/FamilyStatus" "memoryCells" "J" (.long y2_)) (P5 : Exa Z h0 o1_ "java/lang/String") (P6 : Fld Z h0 o1_ "java/lang/String" "coder" "B" (.int (0 : Int32))) (P7 : Fld Z h0 o1_ "java/lang/String" "value" "[B" (.ref o2_)) (P8 : Arv Z h0 o2_ ko2_ .byte (2 : Int32) [(.int x3_), (.int x4_)] (.int (0 : Int32))) (P9 : Exa Z h0 o2_ "[B") :
    MetFree l (⟨"com/example/zenodotus/zenodotus/engine/FamilyStatus", "memoryCells", "()J"⟩ : MethodName) (head1 (Jvm.Cond.code (⟨"com/example/zenodotus/zenodotus/engine/FamilyStatus", "memoryCells", "()J"⟩ : MethodName) prog_9_method_9_code 1 (some .long) :: ws) ({ frames := 0, cells := 0, slots := 0, locals := 0 } : Room)) (fun a U => a = #[(.ref o0_)] ∧ Z.Warmed39 U.vm ∧ U.heap = h0) (fun _ _ _ _ _ => True) (fun _ U o U' => ∃ v L, o = .returned v ∧ QmemoryCells21 Z o0_ o1_ x0_ y1_ y2_ o2_ ko2_ x3_ x4_ h0 n0 v U'.heap L ∧ FrameEnd U o U' L ({ frames := 0, cells := 0, slots := 0, locals := 0 } : Room).cells ({ frames := 0, cells := 0, slots := 0, locals := 0 } : Room).slots) := by
  refine MetFree.of_bodySF (plainFor_of_name pn_3) hisR ?_
  intro p e s m args below meth c s₁ Bd hml0 hP hK
  obtain ⟨rfl, hZ, hh⟩ := hP
  have hx := Bd.exec
  have hby := Bd.bytes
  have hml : c.maxLocals = 1 := hml0
  have hown : s.vm.findClass "com/example/zenodotus/zenodotus/engine/FamilyStatus" = some m.cls := findClass_of_methodNamed Bd.named
  have hnm := (name_of_methodNamed Bd.named Bd.method).1
  have X0 : Stand p l e ({ frames := 0, cells := 0, slots := 0, locals := 0 } : Room) s m #[(.ref o0_)] below meth c s₁ [] 0 0 := Stand.of_body Bd
  have e0 : s₁.heap = h0 := by rw [← hh, Bd.state]; rfl
  have N0 := Fr.nil n0
  have pre0 : ∀ t, Steps p.tables e below (s₁.setTop (mkF m 0 #[.val (.ref o0_)] [])) t → Steps p.tables e below (s₁.setTop (entryFrame m #[(.ref o0_)] 1)) t := fun t k => castTop (efmemoryCells21 m o0_) k
  have K0 : Keep h0 h0 [] := Keep.refl _ _
  obtain ⟨T1, X1, e1, st1⟩ := getF X0 hx hZ hown (host := "") (Or.inl (hw _ (List.mem_of_getElem? (i := 48) rfl))) Via.refl e0 P4 (g := (mkF m 1 #[.val (.ref o0_)] [(.ref o0_)])) rfl rfl (hb hby d13_1)
  have pre2 : ∀ t, Steps p.tables e below (T1.setTop (mkF m 4 #[.val (.ref o0_)] [(.long y2_)])) t → Steps p.tables e below (s₁.setTop (entryFrame m #[(.ref o0_)] 1)) t := by
    intro t kt
    refine pre0 t ?_
    show Steps p.tables e below (s₁.setTop (mkF m 0 #[.val (.ref o0_)] [])) _
    refine XS.aloadN X0.here hx rfl (hb hby d13_0) rfl rfl ?_
    show Steps p.tables e below (s₁.setTop (mkF m 1 #[.val (.ref o0_)] [(.ref o0_)])) _
    refine st1 _ ?_
    exact kt
  obtain ⟨fs, hr, hrun, hended, hW, hsame⟩ := X1.leave (v := some (.long y2_)) (fun h => by rw [Bd.returns] at h; cases h)
  refine ⟨_, _, pre2 _ (retOut X1 hx Bd.returns rfl (Or.inr (Or.inl ⟨rfl, rfl, _, rfl⟩)) (hb hby d13_4) hr), hrun, hended, _, _, rfl, ?_, ⟨_, rfl⟩, hW, hsame.mono (by decide) (by decide)⟩
  show QmemoryCells21 Z o0_ o1_ x0_ y1_ y2_ o2_ ko2_ x3_ x4_ h0 n0 _ T1.heap _
  rw [e1]
  exact ⟨rfl, N0, rfl⟩
theorem pn_4 : plainName "com/example/zenodotus/zenodotus/engine/FamilyStatusPlusPinLaw" = true := by first | (simp [plainName, overriddenIn]; done) | decide +kernel
theorem efLaw (m : MethodId) (p0_ : Int32) (p1_ : Int32) (q2_ : Int64) (q3_ : Int64) (q4_ : Int64) (q5_ : Int64) : entryFrame m #[(.int p0_), (.int p1_), (.long q2_), (.long q3_), (.long q4_), (.long q5_)] maxLocals = mkF m 0 #[.val (.int p0_), .val (.int p1_), .val (.long q2_), .second, .val (.long q3_), .second, .val (.long q4_), .second, .val (.long q5_), .second, .unset, .unset, .unset, .unset, .unset, .unset, .unset, .unset, .unset, .unset, .unset] [] := by first | (simp [entryFrame, mkF, argsToLocals, Value.category, maxLocals]; done) | rfl
def QLaw (Z : State) (p0_ : Int32) (p1_ : Int32) (q2_ : Int64) (q3_ : Int64) (q4_ : Int64) (q5_ : Int64) (w_COMPACT_STRINGS : Int32) (h0 : Heap) (n0 : Nat) (v : Option Value) (h : Heap) (L : List Loc) : Prop := v = some (.int (1 : Int32)) ∧ Fr n0 L
set_option maxRecDepth 65536 in
set_option maxHeartbeats 40000000 in
theorem rmLaw (l : Launch) (Z : State) (a0 : Array Value) (hw : ∀ d ∈ tables_1, d.before a0 Z = true) (ws : List Jvm.Cond) (p0_ : Int32) (p1_ : Int32) (q2_ : Int64) (q3_ : Int64) (q4_ : Int64) (q5_ : Int64) (w_COMPACT_STRINGS : Int32) (h0 : Heap) (n0 : Nat) (O0 : Old Z n0 h0) (hz_0 : ¬ (w_COMPACT_STRINGS = (0 : Int32))) (P1 : Sta Z Z.heap "java/lang/String" "COMPACT_STRINGS" "Z" (.int w_COMPACT_STRINGS)) :
    MetFree l x (head1 (Jvm.Cond.code x code maxLocals ret :: ws) room_1) (fun a U => a = #[(.int p0_), (.int p1_), (.long q2_), (.long q3_), (.long q4_), (.long q5_)] ∧ Z.Warmed39 U.vm ∧ U.heap = h0) (fun _ _ _ _ _ => True) (fun _ U o U' => ∃ v L, o = .returned v ∧ QLaw Z p0_ p1_ q2_ q3_ q4_ q5_ w_COMPACT_STRINGS h0 n0 v U'.heap L ∧ FrameEnd U o U' L room_1.cells room_1.slots) := by
  refine MetFree.of_bodySF (plainFor_of_name pn_4) hisR ?_
  intro p e s m args below meth c s₁ Bd hml0 hP hK
  obtain ⟨rfl, hZ, hh⟩ := hP
  have hx := Bd.exec
  have hby := Bd.bytes
  have hml : c.maxLocals = 21 := hml0
  have hown : s.vm.findClass "com/example/zenodotus/zenodotus/engine/FamilyStatusPlusPinLaw" = some m.cls := findClass_of_methodNamed Bd.named
  have hnm := (name_of_methodNamed Bd.named Bd.method).1
  have X0 : Stand p l e room_1 s m #[(.int p0_), (.int p1_), (.long q2_), (.long q3_), (.long q4_), (.long q5_)] below meth c s₁ [] 0 0 := Stand.of_body Bd
  have e0 : s₁.heap = h0 := by rw [← hh, Bd.state]; rfl
  have N0 := Fr.nil n0
  have pre0 : ∀ t, Steps p.tables e below (s₁.setTop (mkF m 0 #[.val (.int p0_), .val (.int p1_), .val (.long q2_), .second, .val (.long q3_), .second, .val (.long q4_), .second, .val (.long q5_), .second, .unset, .unset, .unset, .unset, .unset, .unset, .unset, .unset, .unset, .unset, .unset] [])) t → Steps p.tables e below (s₁.setTop (entryFrame m #[(.int p0_), (.int p1_), (.long q2_), (.long q3_), (.long q4_), (.long q5_)] maxLocals)) t := fun t k => castTop (efLaw m p0_ p1_ q2_ q3_ q4_ q5_) k
  have K0 : Keep h0 h0 [] := Keep.refl _ _
  obtain ⟨T1, h1, k1, X1, e1, E1, A1, Z1, st1⟩ := newPE X0 hx hZ (hw _ (List.mem_of_getElem? (i := 0) rfl)) e0 (g := (mkF m 1 #[.val (.int p0_), .val (.int p1_), .val (.long q2_), .second, .val (.long q3_), .second, .val (.long q4_), .second, .val (.long q5_), .second, .unset, .unset, .unset, .unset, .unset, .unset, .unset, .unset, .unset, .unset, .unset] [(.int (2 : Int32))])) rfl (hb hby at_1) rfl (by decide) (cap := 2) (by decide) (by decide) (by decide) (by decide) (ad := "[C") (by decide)
  obtain ⟨b1, g1⟩ : ∃ z, z = h0.size := ⟨_, rfl⟩
  rw [← g1] at A1 Z1 st1
  have ge2 : n0 ≤ b1 := Nat.le_trans (Nat.le_trans (Nat.le_of_eq O0.1.symm) O0.2.1) (Nat.le_of_eq g1.symm)
  have sz3 : h0.size ≤ b1 := Nat.le_trans K0.1 (Nat.le_of_eq g1.symm)
  have f4 : Arv Z h1 b1 k1 .char (2 : Int32) [(.int (0 : Int32)), (.int (0 : Int32))] (.int (0 : Int32)) := (Arv.new A1 (by decide)).pad (pad_rep [] (.int (0 : Int32)) 2)
  obtain ⟨c5, r5, q5, s5, z5, y5, G5⟩ := id f4
  have hin5 : ¬ ((0 : Int32) < 0 ∨ c5.slots.size ≤ ((0 : Int32)).toNatClampNeg) := inb_of s5 ⟨by decide, by decide⟩
  obtain ⟨T5, h5, X5, e5, W5, st5⟩ := stC X1 hx hZ e1 r5 (j := (0 : Int32)) hin5 (g := (mkF m 11 #[.val (.int p0_), .val (.int p1_), .val (.long q2_), .second, .val (.long q3_), .second, .val (.long q4_), .second, .val (.long q5_), .second, .unset, .unset, .unset, .unset, .unset, .unset, .unset, .unset, .unset, .unset, .unset] [(.int (p0_ &&& (255 : Int32))), (.int (0 : Int32)), (.ref b1), (.ref b1)])) rfl rfl (hb hby at_11)
  have N6 := Fr.snoc X5 N0 ge2
  have f7 : Arv Z h5 b1 k1 .char (2 : Int32) [(.int ((p0_ &&& (255 : Int32)).toUInt32.toUInt16.toUInt32.toInt32)), (.int (0 : Int32))] (.int (0 : Int32)) := Arv.set r5 q5 s5 z5 y5 G5 (fits_nar_char _) W5 0 rfl (Nat.le_of_ble_eq_true rfl)
  have f8 : Arv Z h5 b1 k1 .char (2 : Int32) [(.int (p0_ &&& (255 : Int32))), (.int (0 : Int32))] (.int (0 : Int32)) := by have q := f7; rw [i2c_mask] at q; exact q
  obtain ⟨c9, r9, q9, s9, z9, y9, G9⟩ := id f8
  have hin9 : ¬ ((1 : Int32) < 0 ∨ c9.slots.size ≤ ((1 : Int32)).toNatClampNeg) := inb_of s9 ⟨by decide, by decide⟩
  obtain ⟨T9, h9, X9, e9, W9, st9⟩ := stC X5 hx hZ e5 r9 (j := (1 : Int32)) hin9 (g := (mkF m 23 #[.val (.int p0_), .val (.int p1_), .val (.long q2_), .second, .val (.long q3_), .second, .val (.long q4_), .second, .val (.long q5_), .second, .unset, .unset, .unset, .unset, .unset, .unset, .unset, .unset, .unset, .unset, .unset] [(.int (((p0_.toUInt32 >>> ((8 : Int32) &&& 31).toUInt32).toInt32) &&& (255 : Int32))), (.int (1 : Int32)), (.ref b1), (.ref b1)])) rfl rfl (hb hby at_23)
  have N10 := Fr.snoc X9 N6 ge2
  have f11 : Arv Z h9 b1 k1 .char (2 : Int32) [(.int (p0_ &&& (255 : Int32))), (.int ((((p0_.toUInt32 >>> ((8 : Int32) &&& 31).toUInt32).toInt32) &&& (255 : Int32)).toUInt32.toUInt16.toUInt32.toInt32))] (.int (0 : Int32)) := Arv.set r9 q9 s9 z9 y9 G9 (fits_nar_char _) W9 1 rfl (Nat.le_of_ble_eq_true rfl)
  have f12 : Arv Z h9 b1 k1 .char (2 : Int32) [(.int (p0_ &&& (255 : Int32))), (.int (((p0_.toUInt32 >>> ((8 : Int32) &&& 31).toUInt32).toInt32) &&& (255 : Int32)))] (.int (0 : Int32)) := by have q := f11; rw [i2c_mask] at q; exact q
  obtain ⟨T13, h13, k13, X13, e13, E13, A13, Z13, st13⟩ := newPE X9 hx hZ (hw _ (List.mem_of_getElem? (i := 0) rfl)) e9 (g := (mkF m 27 #[.val (.int p0_), .val (.int p1_), .val (.long q2_), .second, .val (.long q3_), .second, .val (.long q4_), .second, .val (.long q5_), .second, .val (.ref b1), .unset, .unset, .unset, .unset, .unset, .unset, .unset, .unset, .unset, .unset] [(.int (1 : Int32))])) rfl (hb hby at_27) rfl (by decide) (cap := 1) (by decide) (by decide) (by decide) (by decide) (ad := "[C") (by decide)
  obtain ⟨b13, g13⟩ : ∃ z, z = h9.size := ⟨_, rfl⟩
  rw [← g13] at A13 Z13 st13
  have f14 : Old Z n0 h1 := O0.ext E1
  have f15 : Old Z n0 h5 := f14.wr W5 ge2
  have f16 : Old Z n0 h9 := f15.wr W9 ge2
  have ge17 : n0 ≤ b13 := Nat.le_trans (Nat.le_trans (Nat.le_of_eq f16.1.symm) f16.2.1) (Nat.le_of_eq g13.symm)
  have f18 : Keep h0 h1 [] := K0.ext E1
  have f19 : Keep h0 h5 [] := f18.wr W5 (Or.inr sz3)
  have f20 : Keep h0 h9 [] := f19.wr W9 (Or.inr sz3)
  have sz21 : h0.size ≤ b13 := Nat.le_trans f20.1 (Nat.le_of_eq g13.symm)
  have f22 : Arv Z h13 b13 k13 .char (1 : Int32) [(.int (0 : Int32))] (.int (0 : Int32)) := (Arv.new A13 (by decide)).pad (pad_rep [] (.int (0 : Int32)) 1)
  obtain ⟨c23, r23, q23, s23, z23, y23, G23⟩ := id f22
  have hin23 : ¬ ((0 : Int32) < 0 ∨ c23.slots.size ≤ ((0 : Int32)).toNatClampNeg) := inb_of s23 ⟨by decide, by decide⟩
  obtain ⟨T23, h23, X23, e23, W23, st23⟩ := stC X13 hx hZ e13 r23 (j := (0 : Int32)) hin23 (g := (mkF m 37 #[.val (.int p0_), .val (.int p1_), .val (.long q2_), .second, .val (.long q3_), .second, .val (.long q4_), .second, .val (.long q5_), .second, .val (.ref b1), .unset, .unset, .unset, .unset, .unset, .unset, .unset, .unset, .unset, .unset] [(.int (p1_ &&& (255 : Int32))), (.int (0 : Int32)), (.ref b13), (.ref b13)])) rfl rfl (hb hby at_37)
  have N24 := Fr.snoc X23 N10 ge17
  have f25 : Arv Z h23 b13 k13 .char (1 : Int32) [(.int ((p1_ &&& (255 : Int32)).toUInt32.toUInt16.toUInt32.toInt32))] (.int (0 : Int32)) := Arv.set r23 q23 s23 z23 y23 G23 (fits_nar_char _) W23 0 rfl (Nat.le_of_ble_eq_true rfl)
  have f26 : Arv Z h23 b13 k13 .char (1 : Int32) [(.int (p1_ &&& (255 : Int32)))] (.int (0 : Int32)) := by have q := f25; rw [i2c_mask] at q; exact q
  obtain ⟨T27, h27, X27, e27, E27, A27, D27, -, st27⟩ := newO X23 hx hZ hown (hw _ (List.mem_of_getElem? (i := 1) rfl)) (hw _ (List.mem_of_getElem? (i := 2) rfl)) (hw _ (List.mem_of_getElem? (i := 3) rfl)) e23 (g := (mkF m 40 #[.val (.int p0_), .val (.int p1_), .val (.long q2_), .second, .val (.long q3_), .second, .val (.long q4_), .second, .val (.long q5_), .second, .val (.ref b1), .val (.ref b13), .unset, .unset, .unset, .unset, .unset, .unset, .unset, .unset, .unset] [])) rfl (hb hby at_40) (by decide) (by decide)
  obtain ⟨b27, g27⟩ : ∃ z, z = h23.size := ⟨_, rfl⟩
  rw [← g27] at A27 D27 st27
  have f28 : Old Z n0 h13 := f16.ext E13
  have f29 : Old Z n0 h23 := f28.wr W23 ge17
  have ge30 : n0 ≤ b27 := Nat.le_trans (Nat.le_trans (Nat.le_of_eq f29.1.symm) f29.2.1) (Nat.le_of_eq g27.symm)
  have f31 : Keep h0 h13 [] := f20.ext E13
  have f32 : Keep h0 h23 [] := f31.wr W23 (Or.inr sz21)
  have sz33 : h0.size ≤ b27 := Nat.le_trans f32.1 (Nat.le_of_eq g27.symm)
  have f34 : Fld Z h27 b27 "java/lang/String" "coder" "B" (.int (0 : Int32)) := D27 (Or.inr (hw _ (List.mem_of_getElem? (i := 27) rfl))) (ty := .byte) (by decide)
  have f35 : Fld Z h27 b27 "java/lang/String" "value" "[B" .null := D27 (Or.inr (hw _ (List.mem_of_getElem? (i := 29) rfl))) (ty := (.array .byte)) (by decide)
  have hn36 : ¬ ((255 : Int32) < (p0_ &&& (255 : Int32))) := own_le255 _
  have hn37 : ¬ ((255 : Int32) < (((p0_.toUInt32 >>> ((8 : Int32) &&& 31).toUInt32).toInt32) &&& (255 : Int32))) := own_le255 _
  have hn38 : ¬ ((255 : Int32) < (p1_ &&& (255 : Int32))) := own_le255 _
  have f40 : Arv Z h13 b1 k1 .char (2 : Int32) [(.int (p0_ &&& (255 : Int32))), (.int (((p0_.toUInt32 >>> ((8 : Int32) &&& 31).toUInt32).toInt32) &&& (255 : Int32)))] (.int (0 : Int32)) := f12.ext E13
  have ne42 : b1 ≠ b13 := Nat.ne_of_lt (Nat.lt_of_lt_of_le f12.lt (Nat.le_of_eq g13.symm))
  have f41 : Arv Z h23 b1 k1 .char (2 : Int32) [(.int (p0_ &&& (255 : Int32))), (.int (((p0_.toUInt32 >>> ((8 : Int32) &&& 31).toUInt32).toInt32) &&& (255 : Int32)))] (.int (0 : Int32)) := f40.other W23 ne42
  have f43 : Arv Z h27 b1 k1 .char (2 : Int32) [(.int (p0_ &&& (255 : Int32))), (.int (((p0_.toUInt32 >>> ((8 : Int32) &&& 31).toUInt32).toInt32) &&& (255 : Int32)))] (.int (0 : Int32)) := f41.ext E27
  have f44 : Exa Z h5 b1 "[C" := Z1.wr W5
  have f45 : Exa Z h9 b1 "[C" := f44.wr W9
  have f46 : Exa Z h13 b1 "[C" := f45.ext E13
  have f47 : Exa Z h23 b1 "[C" := f46.wr W23
  have f48 : Exa Z h27 b1 "[C" := f47.ext E27
  have f49 : Old Z n0 h27 := f29.ext E27
  obtain ⟨_, _, ⟨T39, L39, k39, n39⟩, -, X39, ⟨Lc39, hQ39, l39, y39, z39⟩, st39⟩ := X27.specialBack hx (y := (⟨"java/lang/String", "<init>", "([C)V"⟩ : MethodName)) rfl hown (mvT hZ (hw _ (List.mem_of_getElem? (i := 4) rfl))) (mvT hZ (hw _ (List.mem_of_getElem? (i := 5) rfl))) (mvT hZ (hw _ (List.mem_of_getElem? (i := 6) rfl))) (by decide) (backOf (W := 1) (rminit1 l Z a0 hw [] b27 b1 k1 (p0_ &&& (255 : Int32)) (((p0_.toUInt32 >>> ((8 : Int32) &&& 31).toUInt32).toInt32) &&& (255 : Int32)) w_COMPACT_STRINGS h27 n0 f49 hn36 hn37 A27 f34 f35 f43 f48 hz_0 P1 ge30) hZ (hw _ (List.mem_of_getElem? (i := 6) rfl)) (hw _ (List.mem_of_getElem? (i := 3) rfl)) (by decide) (by decide)) (g := (mkF m 46 #[.val (.int p0_), .val (.int p1_), .val (.long q2_), .second, .val (.long q3_), .second, .val (.long q4_), .second, .val (.long q5_), .second, .val (.ref b1), .val (.ref b13), .unset, .unset, .unset, .unset, .unset, .unset, .unset, .unset, .unset] [(.ref b1), (.ref b27), (.ref b27)])) rfl (by rw [hml]; rfl) (Steps.refl _) (a := b27) (argsL := [(.ref b1)]) (rest := [(.ref b27)]) (lenOf pd_4 rfl) rfl (by show 2 * 0 + _ ≤ _; exact Nat.le_of_eq rfl) (hb hby at_46) (fun _ _ => ⟨rfl, e27, (by decide : 3 + 1 ≤ _), (by decide : 7 + 2 ≤ _)⟩)
  dsimp only [Pt.U, Pt.locs, Pt.cells, Pt.slots] at X39 l39 y39 z39 st39 hQ39
  subst l39 y39 z39
  obtain ⟨h39, e39⟩ : ∃ z, T39.heap = z := ⟨_, rfl⟩
  rw [e39] at hQ39
  obtain ⟨k1_3_2_39, nnnb1_3_2_39, rfl, N39q, K39, sznnnb1_3_2_39, g39_0, g39_1, g39_2, g39_3, g39_4⟩ := hQ39
  have N50 := Fr.app N24 N39q
  have ge51 : n0 ≤ nnnb1_3_2_39 := Nat.le_trans (Nat.le_trans (Nat.le_of_eq f49.1.symm) f49.2.1) sznnnb1_3_2_39
  have f52 : Keep h0 h27 [] := f32.ext E27
  have sz53 : h0.size ≤ nnnb1_3_2_39 := Nat.le_trans f52.1 sznnnb1_3_2_39
  obtain ⟨T54, h54, X54, e54, E54, A54, D54, -, st54⟩ := newO X39 hx hZ hown (hw _ (List.mem_of_getElem? (i := 1) rfl)) (hw _ (List.mem_of_getElem? (i := 2) rfl)) (hw _ (List.mem_of_getElem? (i := 3) rfl)) e39 (g := (mkF m 51 #[.val (.int p0_), .val (.int p1_), .val (.long q2_), .second, .val (.long q3_), .second, .val (.long q4_), .second, .val (.long q5_), .second, .val (.ref b1), .val (.ref b13), .val (.ref b27), .unset, .unset, .unset, .unset, .unset, .unset, .unset, .unset] [])) rfl (hb hby at_51) (by decide) (by decide)
  obtain ⟨b54, g54⟩ : ∃ z, z = h39.size := ⟨_, rfl⟩
  rw [← g54] at A54 D54 st54
  have f55 : Old Z n0 h39 := f49.keep K39 (allS (ge30) all0)
  have ge56 : n0 ≤ b54 := Nat.le_trans (Nat.le_trans (Nat.le_of_eq f55.1.symm) f55.2.1) (Nat.le_of_eq g54.symm)
  have f57 : Keep h0 h39 [] := f52.trans K39 (allS (Or.inr sz33) all0)
  have sz58 : h0.size ≤ b54 := Nat.le_trans f57.1 (Nat.le_of_eq g54.symm)
  have f59 : Fld Z h54 b54 "java/lang/String" "coder" "B" (.int (0 : Int32)) := D54 (Or.inr (hw _ (List.mem_of_getElem? (i := 27) rfl))) (ty := .byte) (by decide)
  have f60 : Fld Z h54 b54 "java/lang/String" "value" "[B" .null := D54 (Or.inr (hw _ (List.mem_of_getElem? (i := 29) rfl))) (ty := (.array .byte)) (by decide)
  have f62 : Arv Z h27 b13 k13 .char (1 : Int32) [(.int (p1_ &&& (255 : Int32)))] (.int (0 : Int32)) := f26.ext E27
  have ne64 : b13 ≠ b27 := Nat.ne_of_lt (Nat.lt_of_lt_of_le f26.lt (Nat.le_of_eq g27.symm))
  have f63 : Arv Z h39 b13 k13 .char (1 : Int32) [(.int (p1_ &&& (255 : Int32)))] (.int (0 : Int32)) := f62.keep K39 (ninS ne64 nin0)
  have f65 : Arv Z h54 b13 k13 .char (1 : Int32) [(.int (p1_ &&& (255 : Int32)))] (.int (0 : Int32)) := f63.ext E54
  have f66 : Exa Z h23 b13 "[C" := Z13.wr W23
  have f67 : Exa Z h27 b13 "[C" := f66.ext E27
  have f68 : Exa Z h39 b13 "[C" := f67.keep K39
  have f69 : Exa Z h54 b13 "[C" := f68.ext E54
  have f70 : Old Z n0 h54 := f55.ext E54
  obtain ⟨_, _, ⟨T61, L61, k61, n61⟩, -, X61, ⟨Lc61, hQ61, l61, y61, z61⟩, st61⟩ := X54.specialBack hx (y := (⟨"java/lang/String", "<init>", "([C)V"⟩ : MethodName)) rfl hown (mvT hZ (hw _ (List.mem_of_getElem? (i := 4) rfl))) (mvT hZ (hw _ (List.mem_of_getElem? (i := 5) rfl))) (mvT hZ (hw _ (List.mem_of_getElem? (i := 6) rfl))) (by decide) (backOf (W := 1) (rminit7 l Z a0 hw [] b54 b13 k13 (p1_ &&& (255 : Int32)) w_COMPACT_STRINGS h54 n0 f70 hn38 A54 f59 f60 f65 f69 hz_0 P1 ge56) hZ (hw _ (List.mem_of_getElem? (i := 6) rfl)) (hw _ (List.mem_of_getElem? (i := 3) rfl)) (by decide) (by decide)) (g := (mkF m 57 #[.val (.int p0_), .val (.int p1_), .val (.long q2_), .second, .val (.long q3_), .second, .val (.long q4_), .second, .val (.long q5_), .second, .val (.ref b1), .val (.ref b13), .val (.ref b27), .unset, .unset, .unset, .unset, .unset, .unset, .unset, .unset] [(.ref b13), (.ref b54), (.ref b54)])) rfl (by rw [hml]; rfl) (Steps.refl _) (a := b54) (argsL := [(.ref b13)]) (rest := [(.ref b54)]) (lenOf pd_4 rfl) rfl (by show 2 * 0 + _ ≤ _; exact Nat.le_of_eq rfl) (hb hby at_57) (fun _ _ => ⟨rfl, e54, (by decide : 5 + 1 ≤ _), (by decide : 13 + 1 ≤ _)⟩)
  dsimp only [Pt.U, Pt.locs, Pt.cells, Pt.slots] at X61 l61 y61 z61 st61 hQ61
  subst l61 y61 z61
  obtain ⟨h61, e61⟩ : ∃ z, T61.heap = z := ⟨_, rfl⟩
  rw [e61] at hQ61
  obtain ⟨k1_3_2_61, nnnb1_3_2_61, rfl, N61q, K61, sznnnb1_3_2_61, g61_0, g61_1, g61_2, g61_3, g61_4⟩ := hQ61
  have N71 := Fr.app N50 N61q
  have ge72 : n0 ≤ nnnb1_3_2_61 := Nat.le_trans (Nat.le_trans (Nat.le_of_eq f70.1.symm) f70.2.1) sznnnb1_3_2_61
  have f73 : Keep h0 h54 [] := f57.ext E54
  have sz74 : h0.size ≤ nnnb1_3_2_61 := Nat.le_trans f73.1 sznnnb1_3_2_61
  obtain ⟨T75, h75, X75, e75, E75, A75, D75, -, st75⟩ := newO X61 hx hZ hown (hw _ (List.mem_of_getElem? (i := 30) rfl)) (hw _ (List.mem_of_getElem? (i := 31) rfl)) (hw _ (List.mem_of_getElem? (i := 32) rfl)) e61 (g := (mkF m 62 #[.val (.int p0_), .val (.int p1_), .val (.long q2_), .second, .val (.long q3_), .second, .val (.long q4_), .second, .val (.long q5_), .second, .val (.ref b1), .val (.ref b13), .val (.ref b27), .val (.ref b54), .unset, .unset, .unset, .unset, .unset, .unset, .unset] [])) rfl (hb hby at_62) (by decide) (by decide)
  obtain ⟨b75, g75⟩ : ∃ z, z = h61.size := ⟨_, rfl⟩
  rw [← g75] at A75 D75 st75
  have f76 : Old Z n0 h61 := f70.keep K61 (allS (ge56) all0)
  have ge77 : n0 ≤ b75 := Nat.le_trans (Nat.le_trans (Nat.le_of_eq f76.1.symm) f76.2.1) (Nat.le_of_eq g75.symm)
  have f78 : Keep h0 h61 [] := f73.trans K61 (allS (Or.inr sz58) all0)
  have sz79 : h0.size ≤ b75 := Nat.le_trans f78.1 (Nat.le_of_eq g75.symm)
  have f80 : Fld Z h75 b75 "com/example/zenodotus/zenodotus/engine/FamilyStatus" "family" "Ljava/lang/String;" .null := D75 (Or.inr (hw _ (List.mem_of_getElem? (i := 43) rfl))) (ty := (.object "java/lang/String")) (by decide)
  have f81 : Fld Z h75 b75 "com/example/zenodotus/zenodotus/engine/FamilyStatus" "storeFiles" "I" (.int (0 : Int32)) := D75 (Or.inr (hw _ (List.mem_of_getElem? (i := 45) rfl))) (ty := .int) (by decide)
  have f82 : Fld Z h75 b75 "com/example/zenodotus/zenodotus/engine/FamilyStatus" "storeCells" "J" (.long (0 : Int64)) := D75 (Or.inr (hw _ (List.mem_of_getElem? (i := 47) rfl))) (ty := .long) (by decide)
  have f83 : Fld Z h75 b75 "com/example/zenodotus/zenodotus/engine/FamilyStatus" "memoryCells" "J" (.long (0 : Int64)) := D75 (Or.inr (hw _ (List.mem_of_getElem? (i := 49) rfl))) (ty := .long) (by decide)
  have f85 : Exa Z h54 b27 "java/lang/String" := g39_0.ext E54
  have f86 : Exa Z h61 b27 "java/lang/String" := f85.keep K61
  have f87 : Exa Z h75 b27 "java/lang/String" := f86.ext E75
  have f88 : Fld Z h54 b27 "java/lang/String" "coder" "B" (.int (0 : Int32)) := g39_1.ext E54
  have ne90 : b27 ≠ b54 := Nat.ne_of_lt (Nat.lt_of_lt_of_le g39_0.lt (Nat.le_of_eq g54.symm))
  have f89 : Fld Z h61 b27 "java/lang/String" "coder" "B" (.int (0 : Int32)) := f88.keep K61 (ninS ne90 nin0)
  have f91 : Fld Z h75 b27 "java/lang/String" "coder" "B" (.int (0 : Int32)) := f89.ext E75
  have f92 : Fld Z h54 b27 "java/lang/String" "value" "[B" (.ref nnnb1_3_2_39) := g39_2.ext E54
  have f93 : Fld Z h61 b27 "java/lang/String" "value" "[B" (.ref nnnb1_3_2_39) := f92.keep K61 (ninS ne90 nin0)
  have f94 : Fld Z h75 b27 "java/lang/String" "value" "[B" (.ref nnnb1_3_2_39) := f93.ext E75
  have f95 : Arv Z h54 nnnb1_3_2_39 k1_3_2_39 .byte (2 : Int32) [(.int ((p0_ &&& (255 : Int32)).toInt8.toInt32)), (.int ((((p0_.toUInt32 >>> ((8 : Int32) &&& 31).toUInt32).toInt32) &&& (255 : Int32)).toInt8.toInt32))] (.int (0 : Int32)) := g39_3.ext E54
  have ne97 : nnnb1_3_2_39 ≠ b54 := Nat.ne_of_lt (Nat.lt_of_lt_of_le g39_3.lt (Nat.le_of_eq g54.symm))
  have f96 : Arv Z h61 nnnb1_3_2_39 k1_3_2_39 .byte (2 : Int32) [(.int ((p0_ &&& (255 : Int32)).toInt8.toInt32)), (.int ((((p0_.toUInt32 >>> ((8 : Int32) &&& 31).toUInt32).toInt32) &&& (255 : Int32)).toInt8.toInt32))] (.int (0 : Int32)) := f95.keep K61 (ninS ne97 nin0)
  have f98 : Arv Z h75 nnnb1_3_2_39 k1_3_2_39 .byte (2 : Int32) [(.int ((p0_ &&& (255 : Int32)).toInt8.toInt32)), (.int ((((p0_.toUInt32 >>> ((8 : Int32) &&& 31).toUInt32).toInt32) &&& (255 : Int32)).toInt8.toInt32))] (.int (0 : Int32)) := f96.ext E75
  have f99 : Exa Z h54 nnnb1_3_2_39 "[B" := g39_4.ext E54
  have f100 : Exa Z h61 nnnb1_3_2_39 "[B" := f99.keep K61
  have f101 : Exa Z h75 nnnb1_3_2_39 "[B" := f100.ext E75
  have f102 : Old Z n0 h75 := f76.ext E75
  obtain ⟨_, _, ⟨T84, L84, k84, n84⟩, -, X84, ⟨Lc84, hQ84, l84, y84, z84⟩, st84⟩ := X75.specialBack hx (y := (⟨"com/example/zenodotus/zenodotus/engine/FamilyStatus", "<init>", "(Ljava/lang/String;IJJ)V"⟩ : MethodName)) rfl hown (mvT hZ (hw _ (List.mem_of_getElem? (i := 33) rfl))) (mvT hZ (hw _ (List.mem_of_getElem? (i := 34) rfl))) (mvT hZ (hw _ (List.mem_of_getElem? (i := 35) rfl))) (by decide) (backOf (W := 1) (rminit13 l Z a0 hw [] b75 b27 p0_ q2_ q4_ nnnb1_3_2_39 k1_3_2_39 ((p0_ &&& (255 : Int32)).toInt8.toInt32) ((((p0_.toUInt32 >>> ((8 : Int32) &&& 31).toUInt32).toInt32) &&& (255 : Int32)).toInt8.toInt32) h75 n0 f102 A75 f80 f81 f82 f83 f87 f91 f94 f98 f101 ge77) hZ (hw _ (List.mem_of_getElem? (i := 35) rfl)) (hw _ (List.mem_of_getElem? (i := 32) rfl)) (by decide) (by decide)) (g := (mkF m 72 #[.val (.int p0_), .val (.int p1_), .val (.long q2_), .second, .val (.long q3_), .second, .val (.long q4_), .second, .val (.long q5_), .second, .val (.ref b1), .val (.ref b13), .val (.ref b27), .val (.ref b54), .unset, .unset, .unset, .unset, .unset, .unset, .unset] [(.long q4_), (.long q2_), (.int p0_), (.ref b27), (.ref b75), (.ref b75)])) rfl (by rw [hml]; rfl) (Steps.refl _) (a := b75) (argsL := [(.ref b27), (.int p0_), (.long q2_), (.long q4_)]) (rest := [(.ref b75)]) (lenOf pd_6 rfl) rfl (by show 2 * 0 + _ ≤ _; exact Nat.le_of_eq rfl) (hb hby at_72) (fun _ _ => ⟨rfl, e75, (by decide : 7 + 0 ≤ _), (by decide : 18 + 0 ≤ _)⟩)
  dsimp only [Pt.U, Pt.locs, Pt.cells, Pt.slots] at X84 l84 y84 z84 st84 hQ84
  subst l84 y84 z84
  obtain ⟨h84, e84⟩ : ∃ z, T84.heap = z := ⟨_, rfl⟩
  rw [e84] at hQ84
  obtain ⟨rfl, N84q, K84, g84_0, g84_1, g84_2, g84_3, g84_4⟩ := hQ84
  have N103 := Fr.app N71 N84q
  obtain ⟨T104, h104, X104, e104, E104, A104, D104, -, st104⟩ := newO X84 hx hZ hown (hw _ (List.mem_of_getElem? (i := 30) rfl)) (hw _ (List.mem_of_getElem? (i := 31) rfl)) (hw _ (List.mem_of_getElem? (i := 32) rfl)) e84 (g := (mkF m 77 #[.val (.int p0_), .val (.int p1_), .val (.long q2_), .second, .val (.long q3_), .second, .val (.long q4_), .second, .val (.long q5_), .second, .val (.ref b1), .val (.ref b13), .val (.ref b27), .val (.ref b54), .val (.ref b75), .unset, .unset, .unset, .unset, .unset, .unset] [])) rfl (hb hby at_77) (by decide) (by decide)
  obtain ⟨b104, g104⟩ : ∃ z, z = h84.size := ⟨_, rfl⟩
  rw [← g104] at A104 D104 st104
  have f105 : Old Z n0 h84 := f102.keep K84 (allS (ge77) all0)
  have ge106 : n0 ≤ b104 := Nat.le_trans (Nat.le_trans (Nat.le_of_eq f105.1.symm) f105.2.1) (Nat.le_of_eq g104.symm)
  have f107 : Keep h0 h75 [] := f78.ext E75
  have f108 : Keep h0 h84 [] := f107.trans K84 (allS (Or.inr sz79) all0)
  have sz109 : h0.size ≤ b104 := Nat.le_trans f108.1 (Nat.le_of_eq g104.symm)
  have f110 : Fld Z h104 b104 "com/example/zenodotus/zenodotus/engine/FamilyStatus" "family" "Ljava/lang/String;" .null := D104 (Or.inr (hw _ (List.mem_of_getElem? (i := 43) rfl))) (ty := (.object "java/lang/String")) (by decide)
  have f111 : Fld Z h104 b104 "com/example/zenodotus/zenodotus/engine/FamilyStatus" "storeFiles" "I" (.int (0 : Int32)) := D104 (Or.inr (hw _ (List.mem_of_getElem? (i := 45) rfl))) (ty := .int) (by decide)
  have f112 : Fld Z h104 b104 "com/example/zenodotus/zenodotus/engine/FamilyStatus" "storeCells" "J" (.long (0 : Int64)) := D104 (Or.inr (hw _ (List.mem_of_getElem? (i := 47) rfl))) (ty := .long) (by decide)
  have f113 : Fld Z h104 b104 "com/example/zenodotus/zenodotus/engine/FamilyStatus" "memoryCells" "J" (.long (0 : Int64)) := D104 (Or.inr (hw _ (List.mem_of_getElem? (i := 49) rfl))) (ty := .long) (by decide)
  have f115 : Exa Z h75 b54 "java/lang/String" := g61_0.ext E75
  have f116 : Exa Z h84 b54 "java/lang/String" := f115.keep K84
  have f117 : Exa Z h104 b54 "java/lang/String" := f116.ext E104
  have f118 : Fld Z h75 b54 "java/lang/String" "coder" "B" (.int (0 : Int32)) := g61_1.ext E75
  have ne120 : b54 ≠ b75 := Nat.ne_of_lt (Nat.lt_of_lt_of_le g61_0.lt (Nat.le_of_eq g75.symm))
  have f119 : Fld Z h84 b54 "java/lang/String" "coder" "B" (.int (0 : Int32)) := f118.keep K84 (ninS ne120 nin0)
  have f121 : Fld Z h104 b54 "java/lang/String" "coder" "B" (.int (0 : Int32)) := f119.ext E104
  have f122 : Fld Z h75 b54 "java/lang/String" "value" "[B" (.ref nnnb1_3_2_61) := g61_2.ext E75
  have f123 : Fld Z h84 b54 "java/lang/String" "value" "[B" (.ref nnnb1_3_2_61) := f122.keep K84 (ninS ne120 nin0)
  have f124 : Fld Z h104 b54 "java/lang/String" "value" "[B" (.ref nnnb1_3_2_61) := f123.ext E104
  have f125 : Arv Z h75 nnnb1_3_2_61 k1_3_2_61 .byte (1 : Int32) [(.int ((p1_ &&& (255 : Int32)).toInt8.toInt32))] (.int (0 : Int32)) := g61_3.ext E75
  have ne127 : nnnb1_3_2_61 ≠ b75 := Nat.ne_of_lt (Nat.lt_of_lt_of_le g61_3.lt (Nat.le_of_eq g75.symm))
  have f126 : Arv Z h84 nnnb1_3_2_61 k1_3_2_61 .byte (1 : Int32) [(.int ((p1_ &&& (255 : Int32)).toInt8.toInt32))] (.int (0 : Int32)) := f125.keep K84 (ninS ne127 nin0)
  have f128 : Arv Z h104 nnnb1_3_2_61 k1_3_2_61 .byte (1 : Int32) [(.int ((p1_ &&& (255 : Int32)).toInt8.toInt32))] (.int (0 : Int32)) := f126.ext E104
  have f129 : Exa Z h75 nnnb1_3_2_61 "[B" := g61_4.ext E75
  have f130 : Exa Z h84 nnnb1_3_2_61 "[B" := f129.keep K84
  have f131 : Exa Z h104 nnnb1_3_2_61 "[B" := f130.ext E104
  have f132 : Old Z n0 h104 := f105.ext E104
  obtain ⟨_, _, ⟨T114, L114, k114, n114⟩, -, X114, ⟨Lc114, hQ114, l114, y114, z114⟩, st114⟩ := X104.specialBack hx (y := (⟨"com/example/zenodotus/zenodotus/engine/FamilyStatus", "<init>", "(Ljava/lang/String;IJJ)V"⟩ : MethodName)) rfl hown (mvT hZ (hw _ (List.mem_of_getElem? (i := 33) rfl))) (mvT hZ (hw _ (List.mem_of_getElem? (i := 34) rfl))) (mvT hZ (hw _ (List.mem_of_getElem? (i := 35) rfl))) (by decide) (backOf (W := 1) (rminit15 l Z a0 hw [] b104 b54 p1_ q3_ q5_ nnnb1_3_2_61 k1_3_2_61 ((p1_ &&& (255 : Int32)).toInt8.toInt32) h104 n0 f132 A104 f110 f111 f112 f113 f117 f121 f124 f128 f131 ge106) hZ (hw _ (List.mem_of_getElem? (i := 35) rfl)) (hw _ (List.mem_of_getElem? (i := 32) rfl)) (by decide) (by decide)) (g := (mkF m 88 #[.val (.int p0_), .val (.int p1_), .val (.long q2_), .second, .val (.long q3_), .second, .val (.long q4_), .second, .val (.long q5_), .second, .val (.ref b1), .val (.ref b13), .val (.ref b27), .val (.ref b54), .val (.ref b75), .unset, .unset, .unset, .unset, .unset, .unset] [(.long q5_), (.long q3_), (.int p1_), (.ref b54), (.ref b104), (.ref b104)])) rfl (by rw [hml]; rfl) (Steps.refl _) (a := b104) (argsL := [(.ref b54), (.int p1_), (.long q3_), (.long q5_)]) (rest := [(.ref b104)]) (lenOf pd_6 rfl) rfl (by show 2 * 0 + _ ≤ _; exact Nat.le_of_eq rfl) (hb hby at_88) (fun _ _ => ⟨rfl, e104, (by decide : 8 + 0 ≤ _), (by decide : 22 + 0 ≤ _)⟩)
  dsimp only [Pt.U, Pt.locs, Pt.cells, Pt.slots] at X114 l114 y114 z114 st114 hQ114
  subst l114 y114 z114
  obtain ⟨h114, e114⟩ : ∃ z, T114.heap = z := ⟨_, rfl⟩
  rw [e114] at hQ114
  obtain ⟨rfl, N114q, K114, g114_0, g114_1, g114_2, g114_3, g114_4⟩ := hQ114
  have N133 := Fr.app N103 N114q
  have f135 : Exa Z h104 b75 "com/example/zenodotus/zenodotus/engine/FamilyStatus" := g84_0.ext E104
  have f136 : Exa Z h114 b75 "com/example/zenodotus/zenodotus/engine/FamilyStatus" := f135.keep K114
  have f137 : Fld Z h104 b75 "com/example/zenodotus/zenodotus/engine/FamilyStatus" "family" "Ljava/lang/String;" (.ref b27) := g84_1.ext E104
  have ne139 : b75 ≠ b104 := Nat.ne_of_lt (Nat.lt_of_lt_of_le g84_0.lt (Nat.le_of_eq g104.symm))
  have f138 : Fld Z h114 b75 "com/example/zenodotus/zenodotus/engine/FamilyStatus" "family" "Ljava/lang/String;" (.ref b27) := f137.keep K114 (ninS ne139 nin0)
  have f140 : Fld Z h104 b75 "com/example/zenodotus/zenodotus/engine/FamilyStatus" "storeFiles" "I" (.int p0_) := g84_2.ext E104
  have f141 : Fld Z h114 b75 "com/example/zenodotus/zenodotus/engine/FamilyStatus" "storeFiles" "I" (.int p0_) := f140.keep K114 (ninS ne139 nin0)
  have f142 : Fld Z h104 b75 "com/example/zenodotus/zenodotus/engine/FamilyStatus" "storeCells" "J" (.long q2_) := g84_3.ext E104
  have f143 : Fld Z h114 b75 "com/example/zenodotus/zenodotus/engine/FamilyStatus" "storeCells" "J" (.long q2_) := f142.keep K114 (ninS ne139 nin0)
  have f144 : Fld Z h104 b75 "com/example/zenodotus/zenodotus/engine/FamilyStatus" "memoryCells" "J" (.long q4_) := g84_4.ext E104
  have f145 : Fld Z h114 b75 "com/example/zenodotus/zenodotus/engine/FamilyStatus" "memoryCells" "J" (.long q4_) := f144.keep K114 (ninS ne139 nin0)
  have f146 : Exa Z h84 b27 "java/lang/String" := f87.keep K84
  have f147 : Exa Z h104 b27 "java/lang/String" := f146.ext E104
  have f148 : Exa Z h114 b27 "java/lang/String" := f147.keep K114
  have ne150 : b27 ≠ b75 := Nat.ne_of_lt (Nat.lt_of_lt_of_le f86.lt (Nat.le_of_eq g75.symm))
  have f149 : Fld Z h84 b27 "java/lang/String" "coder" "B" (.int (0 : Int32)) := f91.keep K84 (ninS ne150 nin0)
  have f151 : Fld Z h104 b27 "java/lang/String" "coder" "B" (.int (0 : Int32)) := f149.ext E104
  have ne153 : b27 ≠ b104 := Nat.ne_of_lt (Nat.lt_of_lt_of_le f146.lt (Nat.le_of_eq g104.symm))
  have f152 : Fld Z h114 b27 "java/lang/String" "coder" "B" (.int (0 : Int32)) := f151.keep K114 (ninS ne153 nin0)
  have f154 : Fld Z h84 b27 "java/lang/String" "value" "[B" (.ref nnnb1_3_2_39) := f94.keep K84 (ninS ne150 nin0)
  have f155 : Fld Z h104 b27 "java/lang/String" "value" "[B" (.ref nnnb1_3_2_39) := f154.ext E104
  have f156 : Fld Z h114 b27 "java/lang/String" "value" "[B" (.ref nnnb1_3_2_39) := f155.keep K114 (ninS ne153 nin0)
  have f157 : Exa Z h114 b54 "java/lang/String" := f117.keep K114
  have ne159 : b54 ≠ b104 := Nat.ne_of_lt (Nat.lt_of_lt_of_le f116.lt (Nat.le_of_eq g104.symm))
  have f158 : Fld Z h114 b54 "java/lang/String" "coder" "B" (.int (0 : Int32)) := f121.keep K114 (ninS ne159 nin0)
  have f160 : Fld Z h114 b54 "java/lang/String" "value" "[B" (.ref nnnb1_3_2_61) := f124.keep K114 (ninS ne159 nin0)
  have ne162 : nnnb1_3_2_39 ≠ b75 := Nat.ne_of_lt (Nat.lt_of_lt_of_le f96.lt (Nat.le_of_eq g75.symm))
  have f161 : Arv Z h84 nnnb1_3_2_39 k1_3_2_39 .byte (2 : Int32) [(.int ((p0_ &&& (255 : Int32)).toInt8.toInt32)), (.int ((((p0_.toUInt32 >>> ((8 : Int32) &&& 31).toUInt32).toInt32) &&& (255 : Int32)).toInt8.toInt32))] (.int (0 : Int32)) := f98.keep K84 (ninS ne162 nin0)
  have f163 : Arv Z h104 nnnb1_3_2_39 k1_3_2_39 .byte (2 : Int32) [(.int ((p0_ &&& (255 : Int32)).toInt8.toInt32)), (.int ((((p0_.toUInt32 >>> ((8 : Int32) &&& 31).toUInt32).toInt32) &&& (255 : Int32)).toInt8.toInt32))] (.int (0 : Int32)) := f161.ext E104
  have ne165 : nnnb1_3_2_39 ≠ b104 := Nat.ne_of_lt (Nat.lt_of_lt_of_le f161.lt (Nat.le_of_eq g104.symm))
  have f164 : Arv Z h114 nnnb1_3_2_39 k1_3_2_39 .byte (2 : Int32) [(.int ((p0_ &&& (255 : Int32)).toInt8.toInt32)), (.int ((((p0_.toUInt32 >>> ((8 : Int32) &&& 31).toUInt32).toInt32) &&& (255 : Int32)).toInt8.toInt32))] (.int (0 : Int32)) := f163.keep K114 (ninS ne165 nin0)
  have f166 : Exa Z h84 nnnb1_3_2_39 "[B" := f101.keep K84
  have f167 : Exa Z h104 nnnb1_3_2_39 "[B" := f166.ext E104
  have f168 : Exa Z h114 nnnb1_3_2_39 "[B" := f167.keep K114
  have ne170 : nnnb1_3_2_61 ≠ b104 := Nat.ne_of_lt (Nat.lt_of_lt_of_le f126.lt (Nat.le_of_eq g104.symm))
  have f169 : Arv Z h114 nnnb1_3_2_61 k1_3_2_61 .byte (1 : Int32) [(.int ((p1_ &&& (255 : Int32)).toInt8.toInt32))] (.int (0 : Int32)) := f128.keep K114 (ninS ne170 nin0)
  have f171 : Exa Z h114 nnnb1_3_2_61 "[B" := f131.keep K114
  have f172 : Old Z n0 h114 := f132.keep K114 (allS (ge106) all0)
  obtain ⟨cq134, kq134, q134a, q134b, q134c⟩ := isOf hZ e114 f136
  obtain ⟨_, _, ⟨T134, L134, k134, n134⟩, -, X134, ⟨Lc134, hQ134, l134, y134, z134⟩, st134⟩ := X114.virtualBack hx (y := (⟨"com/example/zenodotus/zenodotus/engine/FamilyStatus", "plus", "(Lcom/example/zenodotus/zenodotus/engine/FamilyStatus;)Lcom/example/zenodotus/zenodotus/engine/FamilyStatus;"⟩ : MethodName)) (z := (⟨"com/example/zenodotus/zenodotus/engine/FamilyStatus", "plus", "(Lcom/example/zenodotus/zenodotus/engine/FamilyStatus;)Lcom/example/zenodotus/zenodotus/engine/FamilyStatus;"⟩ : MethodName)) hown (mvT hZ (hw _ (List.mem_of_getElem? (i := 50) rfl))) (mvT hZ (hw _ (List.mem_of_getElem? (i := 51) rfl))) (notFace_of_selects (args := #[]) (mvT hZ (hw _ (List.mem_of_getElem? (i := 53) rfl)))) (mvT hZ (hw _ (List.mem_of_getElem? (i := 53) rfl))) (mvT hZ (hw _ (List.mem_of_getElem? (i := 52) rfl))) (by decide) (backOf (W := 0) (rmplus16 l Z a0 hw [] b75 b104 b27 p0_ q2_ q4_ b54 p1_ q3_ q5_ nnnb1_3_2_39 nnnb1_3_2_61 k1_3_2_39 ((p0_ &&& (255 : Int32)).toInt8.toInt32) ((((p0_.toUInt32 >>> ((8 : Int32) &&& 31).toUInt32).toInt32) &&& (255 : Int32)).toInt8.toInt32) k1_3_2_61 ((p1_ &&& (255 : Int32)).toInt8.toInt32) h114 n0 f172 f136 f138 f141 f143 f145 g114_0 g114_1 g114_2 g114_3 g114_4 f148 f152 f156 f157 f158 f160 f164 f168 f169 f171) hZ (hw _ (List.mem_of_getElem? (i := 54) rfl)) (hw _ (List.mem_of_getElem? (i := 32) rfl)) (by decide) (by decide)) q134a q134c (g := (mkF m 97 #[.val (.int p0_), .val (.int p1_), .val (.long q2_), .second, .val (.long q3_), .second, .val (.long q4_), .second, .val (.long q5_), .second, .val (.ref b1), .val (.ref b13), .val (.ref b27), .val (.ref b54), .val (.ref b75), .val (.ref b104), .unset, .unset, .unset, .unset, .unset] [(.ref b104), (.ref b75)])) rfl (by rw [hml]; rfl) (Steps.refl _) (argsL := [(.ref b104)]) (rest := []) (lenOf pd_7 rfl) rfl (by show 2 * 0 + _ ≤ _; exact Nat.le_of_eq rfl) (hb hby at_97) (fun _ _ => ⟨rfl, e114, (by decide : 8 + 1 ≤ _), (by decide : 22 + 4 ≤ _)⟩)
  dsimp only [Pt.U, Pt.locs, Pt.cells, Pt.slots] at X134 l134 y134 z134 st134 hQ134
  subst l134 y134 z134
  obtain ⟨h134, e134⟩ : ∃ z, T134.heap = z := ⟨_, rfl⟩
  rw [e134] at hQ134
  obtain ⟨nb1_134, rfl, N134q, K134, sznb1_134, g134_0, g134_1, g134_2, g134_3, g134_4⟩ := hQ134
  have N173 := Fr.app N133 N134q
  have ge174 : n0 ≤ nb1_134 := Nat.le_trans (Nat.le_trans (Nat.le_of_eq f172.1.symm) f172.2.1) sznb1_134
  have f175 : Keep h0 h104 [] := f108.ext E104
  have f176 : Keep h0 h114 [] := f175.trans K114 (allS (Or.inr sz109) all0)
  have sz177 : h0.size ≤ nb1_134 := Nat.le_trans f176.1 sznb1_134
  have f179 : Exa Z h134 b27 "java/lang/String" := f148.keep K134
  have f180 : Fld Z h134 b27 "java/lang/String" "coder" "B" (.int (0 : Int32)) := f152.keep K134 nin0
  have f181 : Fld Z h134 b27 "java/lang/String" "value" "[B" (.ref nnnb1_3_2_39) := f156.keep K134 nin0
  have f182 : Arv Z h134 nnnb1_3_2_39 k1_3_2_39 .byte (2 : Int32) [(.int ((p0_ &&& (255 : Int32)).toInt8.toInt32)), (.int ((((p0_.toUInt32 >>> ((8 : Int32) &&& 31).toUInt32).toInt32) &&& (255 : Int32)).toInt8.toInt32))] (.int (0 : Int32)) := f164.keep K134 nin0
  have f183 : Exa Z h134 nnnb1_3_2_39 "[B" := f168.keep K134
  have f184 : Old Z n0 h134 := f172.keep K134 all0
  obtain ⟨cq178, kq178, q178a, q178b, q178c⟩ := isOf hZ e134 g134_0
  obtain ⟨_, _, ⟨T178, L178, k178, n178⟩, -, X178, ⟨Lc178, hQ178, l178, y178, z178⟩, st178⟩ := X134.virtualBack hx (y := (⟨"com/example/zenodotus/zenodotus/engine/FamilyStatus", "family", "()Ljava/lang/String;"⟩ : MethodName)) (z := (⟨"com/example/zenodotus/zenodotus/engine/FamilyStatus", "family", "()Ljava/lang/String;"⟩ : MethodName)) hown (mvT hZ (hw _ (List.mem_of_getElem? (i := 57) rfl))) (mvT hZ (hw _ (List.mem_of_getElem? (i := 58) rfl))) (notFace_of_selects (args := #[]) (mvT hZ (hw _ (List.mem_of_getElem? (i := 60) rfl)))) (mvT hZ (hw _ (List.mem_of_getElem? (i := 60) rfl))) (mvT hZ (hw _ (List.mem_of_getElem? (i := 59) rfl))) (by decide) (backOf (W := 0) (rmfamily17 l Z a0 hw [] nb1_134 b27 (p0_ + p1_) (q2_ + q3_) (q4_ + q5_) nnnb1_3_2_39 k1_3_2_39 ((p0_ &&& (255 : Int32)).toInt8.toInt32) ((((p0_.toUInt32 >>> ((8 : Int32) &&& 31).toUInt32).toInt32) &&& (255 : Int32)).toInt8.toInt32) h134 n0 f184 g134_0 g134_1 g134_2 g134_3 g134_4 f179 f180 f181 f182 f183) hZ (hw _ (List.mem_of_getElem? (i := 61) rfl)) (hw _ (List.mem_of_getElem? (i := 32) rfl)) (by decide) (by decide)) q178a q178c (g := (mkF m 104 #[.val (.int p0_), .val (.int p1_), .val (.long q2_), .second, .val (.long q3_), .second, .val (.long q4_), .second, .val (.long q5_), .second, .val (.ref b1), .val (.ref b13), .val (.ref b27), .val (.ref b54), .val (.ref b75), .val (.ref b104), .val (.ref nb1_134), .unset, .unset, .unset, .unset] [(.ref nb1_134)])) rfl (by rw [hml]; rfl) (Steps.refl _) (argsL := []) (rest := []) (lenOf pd_8 rfl) rfl (by show 2 * 0 + _ ≤ _; exact Nat.le_of_eq rfl) (hb hby at_104) (fun _ _ => ⟨rfl, e134, (by decide : 9 + 0 ≤ _), (by decide : 26 + 0 ≤ _)⟩)
  dsimp only [Pt.U, Pt.locs, Pt.cells, Pt.slots] at X178 l178 y178 z178 st178 hQ178
  subst l178 y178 z178
  obtain ⟨h178, e178⟩ : ∃ z, T178.heap = z := ⟨_, rfl⟩
  rw [e178] at hQ178
  obtain ⟨rfl, N178q, hh178⟩ := hQ178
  have N185 := Fr.app N173 N178q
  have e178' : T178.heap = h134 := e178.trans hh178
  obtain ⟨cq186, kq186, q186a, q186b, q186c⟩ := isOf hZ e178' f179
  obtain ⟨_, _, ⟨T186, L186, k186, n186⟩, -, X186, ⟨Lc186, hQ186, l186, y186, z186⟩, st186⟩ := X178.virtualBack hx (y := (⟨"java/lang/String", "equals", "(Ljava/lang/Object;)Z"⟩ : MethodName)) (z := (⟨"java/lang/String", "equals", "(Ljava/lang/Object;)Z"⟩ : MethodName)) hown (mvT hZ (hw _ (List.mem_of_getElem? (i := 62) rfl))) (mvT hZ (hw _ (List.mem_of_getElem? (i := 63) rfl))) (notFace_of_selects (args := #[]) (mvT hZ (hw _ (List.mem_of_getElem? (i := 65) rfl)))) (mvT hZ (hw _ (List.mem_of_getElem? (i := 65) rfl))) (mvT hZ (hw _ (List.mem_of_getElem? (i := 64) rfl))) (by decide) (backOf (W := 0) (rmequals18 l Z a0 hw [] b27 nnnb1_3_2_39 k1_3_2_39 ((p0_ &&& (255 : Int32)).toInt8.toInt32) ((((p0_.toUInt32 >>> ((8 : Int32) &&& 31).toUInt32).toInt32) &&& (255 : Int32)).toInt8.toInt32) h134 n0 f184 f179 f180 f181 f182 f183) hZ (hw _ (List.mem_of_getElem? (i := 66) rfl)) (hw _ (List.mem_of_getElem? (i := 3) rfl)) (by decide) (by decide)) q186a q186c (g := (mkF m 109 #[.val (.int p0_), .val (.int p1_), .val (.long q2_), .second, .val (.long q3_), .second, .val (.long q4_), .second, .val (.long q5_), .second, .val (.ref b1), .val (.ref b13), .val (.ref b27), .val (.ref b54), .val (.ref b75), .val (.ref b104), .val (.ref nb1_134), .unset, .unset, .unset, .unset] [(.ref b27), (.ref b27)])) rfl (by rw [hml]; rfl) (Steps.refl _) (argsL := [(.ref b27)]) (rest := []) (lenOf pd_9 rfl) rfl (by show 2 * 0 + _ ≤ _; exact Nat.le_of_eq rfl) (hb hby at_109) (fun _ _ => ⟨rfl, e178', (by decide : 9 + 0 ≤ _), (by decide : 26 + 0 ≤ _)⟩)
  dsimp only [Pt.U, Pt.locs, Pt.cells, Pt.slots] at X186 l186 y186 z186 st186 hQ186
  subst l186 y186 z186
  obtain ⟨h186, e186⟩ : ∃ z, T186.heap = z := ⟨_, rfl⟩
  rw [e186] at hQ186
  obtain ⟨rfl, N186q, hh186⟩ := hQ186
  have N187 := Fr.app N185 N186q
  have e186' : T186.heap = h134 := e186.trans hh186
  obtain ⟨cq188, kq188, q188a, q188b, q188c⟩ := isOf hZ e186' g134_0
  obtain ⟨_, _, ⟨T188, L188, k188, n188⟩, -, X188, ⟨Lc188, hQ188, l188, y188, z188⟩, st188⟩ := X186.virtualBack hx (y := (⟨"com/example/zenodotus/zenodotus/engine/FamilyStatus", "storeFiles", "()I"⟩ : MethodName)) (z := (⟨"com/example/zenodotus/zenodotus/engine/FamilyStatus", "storeFiles", "()I"⟩ : MethodName)) hown (mvT hZ (hw _ (List.mem_of_getElem? (i := 67) rfl))) (mvT hZ (hw _ (List.mem_of_getElem? (i := 68) rfl))) (notFace_of_selects (args := #[]) (mvT hZ (hw _ (List.mem_of_getElem? (i := 70) rfl)))) (mvT hZ (hw _ (List.mem_of_getElem? (i := 70) rfl))) (mvT hZ (hw _ (List.mem_of_getElem? (i := 69) rfl))) (by decide) (backOf (W := 0) (rmstoreFiles19 l Z a0 hw [] nb1_134 b27 (p0_ + p1_) (q2_ + q3_) (q4_ + q5_) nnnb1_3_2_39 k1_3_2_39 ((p0_ &&& (255 : Int32)).toInt8.toInt32) ((((p0_.toUInt32 >>> ((8 : Int32) &&& 31).toUInt32).toInt32) &&& (255 : Int32)).toInt8.toInt32) h134 n0 f184 g134_0 g134_1 g134_2 g134_3 g134_4 f179 f180 f181 f182 f183) hZ (hw _ (List.mem_of_getElem? (i := 71) rfl)) (hw _ (List.mem_of_getElem? (i := 32) rfl)) (by decide) (by decide)) q188a q188c (g := (mkF m 116 #[.val (.int p0_), .val (.int p1_), .val (.long q2_), .second, .val (.long q3_), .second, .val (.long q4_), .second, .val (.long q5_), .second, .val (.ref b1), .val (.ref b13), .val (.ref b27), .val (.ref b54), .val (.ref b75), .val (.ref b104), .val (.ref nb1_134), .val (.int (1 : Int32)), .unset, .unset, .unset] [(.ref nb1_134)])) rfl (by rw [hml]; rfl) (Steps.refl _) (argsL := []) (rest := []) (lenOf pd_10 rfl) rfl (by show 2 * 0 + _ ≤ _; exact Nat.le_of_eq rfl) (hb hby at_116) (fun _ _ => ⟨rfl, e186', (by decide : 9 + 0 ≤ _), (by decide : 26 + 0 ≤ _)⟩)
  dsimp only [Pt.U, Pt.locs, Pt.cells, Pt.slots] at X188 l188 y188 z188 st188 hQ188
  subst l188 y188 z188
  obtain ⟨h188, e188⟩ : ∃ z, T188.heap = z := ⟨_, rfl⟩
  rw [e188] at hQ188
  obtain ⟨rfl, N188q, hh188⟩ := hQ188
  have N189 := Fr.app N187 N188q
  have e188' : T188.heap = h134 := e188.trans hh188
  obtain ⟨cq190, kq190, q190a, q190b, q190c⟩ := isOf hZ e188' g134_0
  obtain ⟨_, _, ⟨T190, L190, k190, n190⟩, -, X190, ⟨Lc190, hQ190, l190, y190, z190⟩, st190⟩ := X188.virtualBack hx (y := (⟨"com/example/zenodotus/zenodotus/engine/FamilyStatus", "storeCells", "()J"⟩ : MethodName)) (z := (⟨"com/example/zenodotus/zenodotus/engine/FamilyStatus", "storeCells", "()J"⟩ : MethodName)) hown (mvT hZ (hw _ (List.mem_of_getElem? (i := 72) rfl))) (mvT hZ (hw _ (List.mem_of_getElem? (i := 73) rfl))) (notFace_of_selects (args := #[]) (mvT hZ (hw _ (List.mem_of_getElem? (i := 75) rfl)))) (mvT hZ (hw _ (List.mem_of_getElem? (i := 75) rfl))) (mvT hZ (hw _ (List.mem_of_getElem? (i := 74) rfl))) (by decide) (backOf (W := 0) (rmstoreCells20 l Z a0 hw [] nb1_134 b27 (p0_ + p1_) (q2_ + q3_) (q4_ + q5_) nnnb1_3_2_39 k1_3_2_39 ((p0_ &&& (255 : Int32)).toInt8.toInt32) ((((p0_.toUInt32 >>> ((8 : Int32) &&& 31).toUInt32).toInt32) &&& (255 : Int32)).toInt8.toInt32) h134 n0 f184 g134_0 g134_1 g134_2 g134_3 g134_4 f179 f180 f181 f182 f183) hZ (hw _ (List.mem_of_getElem? (i := 76) rfl)) (hw _ (List.mem_of_getElem? (i := 32) rfl)) (by decide) (by decide)) q190a q190c (g := (mkF m 134 #[.val (.int p0_), .val (.int p1_), .val (.long q2_), .second, .val (.long q3_), .second, .val (.long q4_), .second, .val (.long q5_), .second, .val (.ref b1), .val (.ref b13), .val (.ref b27), .val (.ref b54), .val (.ref b75), .val (.ref b104), .val (.ref nb1_134), .val (.int (1 : Int32)), .val (.int (1 : Int32)), .unset, .unset] [(.ref nb1_134)])) rfl (by rw [hml]; rfl) (Steps.refl _) (argsL := []) (rest := []) (lenOf pd_11 rfl) rfl (by show 2 * 0 + _ ≤ _; exact Nat.le_of_eq rfl) (hb hby at_134) (fun _ _ => ⟨rfl, e188', (by decide : 9 + 0 ≤ _), (by decide : 26 + 0 ≤ _)⟩)
  dsimp only [Pt.U, Pt.locs, Pt.cells, Pt.slots] at X190 l190 y190 z190 st190 hQ190
  subst l190 y190 z190
  obtain ⟨h190, e190⟩ : ∃ z, T190.heap = z := ⟨_, rfl⟩
  rw [e190] at hQ190
  obtain ⟨rfl, N190q, hh190⟩ := hQ190
  have N191 := Fr.app N189 N190q
  have e190' : T190.heap = h134 := e190.trans hh190
  obtain ⟨cq192, kq192, q192a, q192b, q192c⟩ := isOf hZ e190' g134_0
  obtain ⟨_, _, ⟨T192, L192, k192, n192⟩, -, X192, ⟨Lc192, hQ192, l192, y192, z192⟩, st192⟩ := X190.virtualBack hx (y := (⟨"com/example/zenodotus/zenodotus/engine/FamilyStatus", "memoryCells", "()J"⟩ : MethodName)) (z := (⟨"com/example/zenodotus/zenodotus/engine/FamilyStatus", "memoryCells", "()J"⟩ : MethodName)) hown (mvT hZ (hw _ (List.mem_of_getElem? (i := 77) rfl))) (mvT hZ (hw _ (List.mem_of_getElem? (i := 78) rfl))) (notFace_of_selects (args := #[]) (mvT hZ (hw _ (List.mem_of_getElem? (i := 80) rfl)))) (mvT hZ (hw _ (List.mem_of_getElem? (i := 80) rfl))) (mvT hZ (hw _ (List.mem_of_getElem? (i := 79) rfl))) (by decide) (backOf (W := 0) (rmmemoryCells21 l Z a0 hw [] nb1_134 b27 (p0_ + p1_) (q2_ + q3_) (q4_ + q5_) nnnb1_3_2_39 k1_3_2_39 ((p0_ &&& (255 : Int32)).toInt8.toInt32) ((((p0_.toUInt32 >>> ((8 : Int32) &&& 31).toUInt32).toInt32) &&& (255 : Int32)).toInt8.toInt32) h134 n0 f184 g134_0 g134_1 g134_2 g134_3 g134_4 f179 f180 f181 f182 f183) hZ (hw _ (List.mem_of_getElem? (i := 81) rfl)) (hw _ (List.mem_of_getElem? (i := 32) rfl)) (by decide) (by decide)) q192a q192c (g := (mkF m 154 #[.val (.int p0_), .val (.int p1_), .val (.long q2_), .second, .val (.long q3_), .second, .val (.long q4_), .second, .val (.long q5_), .second, .val (.ref b1), .val (.ref b13), .val (.ref b27), .val (.ref b54), .val (.ref b75), .val (.ref b104), .val (.ref nb1_134), .val (.int (1 : Int32)), .val (.int (1 : Int32)), .val (.int (1 : Int32)), .unset] [(.ref nb1_134)])) rfl (by rw [hml]; rfl) (Steps.refl _) (argsL := []) (rest := []) (lenOf pd_11 rfl) rfl (by show 2 * 0 + _ ≤ _; exact Nat.le_of_eq rfl) (hb hby at_154) (fun _ _ => ⟨rfl, e190', (by decide : 9 + 0 ≤ _), (by decide : 26 + 0 ≤ _)⟩)
  dsimp only [Pt.U, Pt.locs, Pt.cells, Pt.slots] at X192 l192 y192 z192 st192 hQ192
  subst l192 y192 z192
  obtain ⟨h192, e192⟩ : ∃ z, T192.heap = z := ⟨_, rfl⟩
  rw [e192] at hQ192
  obtain ⟨rfl, N192q, hh192⟩ := hQ192
  have N193 := Fr.app N191 N192q
  have e192' : T192.heap = h134 := e192.trans hh192
  have pre194 : ∀ t, Steps p.tables e below (T192.setTop (mkF m 198 #[.val (.int p0_), .val (.int p1_), .val (.long q2_), .second, .val (.long q3_), .second, .val (.long q4_), .second, .val (.long q5_), .second, .val (.ref b1), .val (.ref b13), .val (.ref b27), .val (.ref b54), .val (.ref b75), .val (.ref b104), .val (.ref nb1_134), .val (.int (1 : Int32)), .val (.int (1 : Int32)), .val (.int (1 : Int32)), .val (.int (1 : Int32))] [(.int (1 : Int32))])) t → Steps p.tables e below (s₁.setTop (entryFrame m #[(.int p0_), (.int p1_), (.long q2_), (.long q3_), (.long q4_), (.long q5_)] maxLocals)) t := by
    intro t kt
    refine pre0 t ?_
    show Steps p.tables e below (s₁.setTop (mkF m 0 #[.val (.int p0_), .val (.int p1_), .val (.long q2_), .second, .val (.long q3_), .second, .val (.long q4_), .second, .val (.long q5_), .second, .unset, .unset, .unset, .unset, .unset, .unset, .unset, .unset, .unset, .unset, .unset] [])) _
    refine XS.iconst X0.here hx rfl (hb hby at_0) ?_
    show Steps p.tables e below (s₁.setTop (mkF m 1 #[.val (.int p0_), .val (.int p1_), .val (.long q2_), .second, .val (.long q3_), .second, .val (.long q4_), .second, .val (.long q5_), .second, .unset, .unset, .unset, .unset, .unset, .unset, .unset, .unset, .unset, .unset, .unset] [(.int (2 : Int32))])) _
    refine st1 _ ?_
    show Steps p.tables e below (T1.setTop (mkF m 3 #[.val (.int p0_), .val (.int p1_), .val (.long q2_), .second, .val (.long q3_), .second, .val (.long q4_), .second, .val (.long q5_), .second, .unset, .unset, .unset, .unset, .unset, .unset, .unset, .unset, .unset, .unset, .unset] [(.ref b1)])) _
    refine XS.dup X1.here hx rfl (hb hby at_3) rfl rfl ?_
    show Steps p.tables e below (T1.setTop (mkF m 4 #[.val (.int p0_), .val (.int p1_), .val (.long q2_), .second, .val (.long q3_), .second, .val (.long q4_), .second, .val (.long q5_), .second, .unset, .unset, .unset, .unset, .unset, .unset, .unset, .unset, .unset, .unset, .unset] [(.ref b1), (.ref b1)])) _
    refine XS.iconst X1.here hx rfl (hb hby at_4) ?_
    show Steps p.tables e below (T1.setTop (mkF m 5 #[.val (.int p0_), .val (.int p1_), .val (.long q2_), .second, .val (.long q3_), .second, .val (.long q4_), .second, .val (.long q5_), .second, .unset, .unset, .unset, .unset, .unset, .unset, .unset, .unset, .unset, .unset, .unset] [(.int (0 : Int32)), (.ref b1), (.ref b1)])) _
    refine XS.iloadN X1.here hx rfl (hb hby at_5) rfl ?_
    show Steps p.tables e below (T1.setTop (mkF m 6 #[.val (.int p0_), .val (.int p1_), .val (.long q2_), .second, .val (.long q3_), .second, .val (.long q4_), .second, .val (.long q5_), .second, .unset, .unset, .unset, .unset, .unset, .unset, .unset, .unset, .unset, .unset, .unset] [(.int p0_), (.int (0 : Int32)), (.ref b1), (.ref b1)])) _
    refine XS.sipush X1.here hx rfl (hb hby at_6) ?_
    show Steps p.tables e below (T1.setTop (mkF m 9 #[.val (.int p0_), .val (.int p1_), .val (.long q2_), .second, .val (.long q3_), .second, .val (.long q4_), .second, .val (.long q5_), .second, .unset, .unset, .unset, .unset, .unset, .unset, .unset, .unset, .unset, .unset, .unset] [(.int (255 : Int32)), (.int p0_), (.int (0 : Int32)), (.ref b1), (.ref b1)])) _
    refine XS.iand X1.here hx rfl (hb hby at_9) rfl ?_
    show Steps p.tables e below (T1.setTop (mkF m 10 #[.val (.int p0_), .val (.int p1_), .val (.long q2_), .second, .val (.long q3_), .second, .val (.long q4_), .second, .val (.long q5_), .second, .unset, .unset, .unset, .unset, .unset, .unset, .unset, .unset, .unset, .unset, .unset] [(.int (p0_ &&& (255 : Int32))), (.int (0 : Int32)), (.ref b1), (.ref b1)])) _
    refine XS.i2c X1.here hx rfl (hb hby at_10) rfl ?_
    show Steps p.tables e below (T1.setTop (mkF m 11 #[.val (.int p0_), .val (.int p1_), .val (.long q2_), .second, .val (.long q3_), .second, .val (.long q4_), .second, .val (.long q5_), .second, .unset, .unset, .unset, .unset, .unset, .unset, .unset, .unset, .unset, .unset, .unset] [(.int ((p0_ &&& (255 : Int32)).toUInt32.toUInt16.toUInt32.toInt32)), (.int (0 : Int32)), (.ref b1), (.ref b1)])) _
    rw [i2c_mask]
    show Steps p.tables e below (T1.setTop (mkF m 11 #[.val (.int p0_), .val (.int p1_), .val (.long q2_), .second, .val (.long q3_), .second, .val (.long q4_), .second, .val (.long q5_), .second, .unset, .unset, .unset, .unset, .unset, .unset, .unset, .unset, .unset, .unset, .unset] [(.int (p0_ &&& (255 : Int32))), (.int (0 : Int32)), (.ref b1), (.ref b1)])) _
    refine st5 _ ?_
    show Steps p.tables e below (T5.setTop (mkF m 12 #[.val (.int p0_), .val (.int p1_), .val (.long q2_), .second, .val (.long q3_), .second, .val (.long q4_), .second, .val (.long q5_), .second, .unset, .unset, .unset, .unset, .unset, .unset, .unset, .unset, .unset, .unset, .unset] [(.ref b1)])) _
    refine XS.dup X5.here hx rfl (hb hby at_12) rfl rfl ?_
    show Steps p.tables e below (T5.setTop (mkF m 13 #[.val (.int p0_), .val (.int p1_), .val (.long q2_), .second, .val (.long q3_), .second, .val (.long q4_), .second, .val (.long q5_), .second, .unset, .unset, .unset, .unset, .unset, .unset, .unset, .unset, .unset, .unset, .unset] [(.ref b1), (.ref b1)])) _
    refine XS.iconst X5.here hx rfl (hb hby at_13) ?_
    show Steps p.tables e below (T5.setTop (mkF m 14 #[.val (.int p0_), .val (.int p1_), .val (.long q2_), .second, .val (.long q3_), .second, .val (.long q4_), .second, .val (.long q5_), .second, .unset, .unset, .unset, .unset, .unset, .unset, .unset, .unset, .unset, .unset, .unset] [(.int (1 : Int32)), (.ref b1), (.ref b1)])) _
    refine XS.iloadN X5.here hx rfl (hb hby at_14) rfl ?_
    show Steps p.tables e below (T5.setTop (mkF m 15 #[.val (.int p0_), .val (.int p1_), .val (.long q2_), .second, .val (.long q3_), .second, .val (.long q4_), .second, .val (.long q5_), .second, .unset, .unset, .unset, .unset, .unset, .unset, .unset, .unset, .unset, .unset, .unset] [(.int p0_), (.int (1 : Int32)), (.ref b1), (.ref b1)])) _
    refine XS.bipush X5.here hx rfl (hb hby at_15) ?_
    show Steps p.tables e below (T5.setTop (mkF m 17 #[.val (.int p0_), .val (.int p1_), .val (.long q2_), .second, .val (.long q3_), .second, .val (.long q4_), .second, .val (.long q5_), .second, .unset, .unset, .unset, .unset, .unset, .unset, .unset, .unset, .unset, .unset, .unset] [(.int (8 : Int32)), (.int p0_), (.int (1 : Int32)), (.ref b1), (.ref b1)])) _
    refine XS.iushr X5.here hx rfl (hb hby at_17) rfl ?_
    show Steps p.tables e below (T5.setTop (mkF m 18 #[.val (.int p0_), .val (.int p1_), .val (.long q2_), .second, .val (.long q3_), .second, .val (.long q4_), .second, .val (.long q5_), .second, .unset, .unset, .unset, .unset, .unset, .unset, .unset, .unset, .unset, .unset, .unset] [(.int ((p0_.toUInt32 >>> ((8 : Int32) &&& 31).toUInt32).toInt32)), (.int (1 : Int32)), (.ref b1), (.ref b1)])) _
    refine XS.sipush X5.here hx rfl (hb hby at_18) ?_
    show Steps p.tables e below (T5.setTop (mkF m 21 #[.val (.int p0_), .val (.int p1_), .val (.long q2_), .second, .val (.long q3_), .second, .val (.long q4_), .second, .val (.long q5_), .second, .unset, .unset, .unset, .unset, .unset, .unset, .unset, .unset, .unset, .unset, .unset] [(.int (255 : Int32)), (.int ((p0_.toUInt32 >>> ((8 : Int32) &&& 31).toUInt32).toInt32)), (.int (1 : Int32)), (.ref b1), (.ref b1)])) _
    refine XS.iand X5.here hx rfl (hb hby at_21) rfl ?_
    show Steps p.tables e below (T5.setTop (mkF m 22 #[.val (.int p0_), .val (.int p1_), .val (.long q2_), .second, .val (.long q3_), .second, .val (.long q4_), .second, .val (.long q5_), .second, .unset, .unset, .unset, .unset, .unset, .unset, .unset, .unset, .unset, .unset, .unset] [(.int (((p0_.toUInt32 >>> ((8 : Int32) &&& 31).toUInt32).toInt32) &&& (255 : Int32))), (.int (1 : Int32)), (.ref b1), (.ref b1)])) _
    refine XS.i2c X5.here hx rfl (hb hby at_22) rfl ?_
    show Steps p.tables e below (T5.setTop (mkF m 23 #[.val (.int p0_), .val (.int p1_), .val (.long q2_), .second, .val (.long q3_), .second, .val (.long q4_), .second, .val (.long q5_), .second, .unset, .unset, .unset, .unset, .unset, .unset, .unset, .unset, .unset, .unset, .unset] [(.int ((((p0_.toUInt32 >>> ((8 : Int32) &&& 31).toUInt32).toInt32) &&& (255 : Int32)).toUInt32.toUInt16.toUInt32.toInt32)), (.int (1 : Int32)), (.ref b1), (.ref b1)])) _
    rw [i2c_mask]
    show Steps p.tables e below (T5.setTop (mkF m 23 #[.val (.int p0_), .val (.int p1_), .val (.long q2_), .second, .val (.long q3_), .second, .val (.long q4_), .second, .val (.long q5_), .second, .unset, .unset, .unset, .unset, .unset, .unset, .unset, .unset, .unset, .unset, .unset] [(.int (((p0_.toUInt32 >>> ((8 : Int32) &&& 31).toUInt32).toInt32) &&& (255 : Int32))), (.int (1 : Int32)), (.ref b1), (.ref b1)])) _
    refine st9 _ ?_
    show Steps p.tables e below (T9.setTop (mkF m 24 #[.val (.int p0_), .val (.int p1_), .val (.long q2_), .second, .val (.long q3_), .second, .val (.long q4_), .second, .val (.long q5_), .second, .unset, .unset, .unset, .unset, .unset, .unset, .unset, .unset, .unset, .unset, .unset] [(.ref b1)])) _
    refine XS.astore X9.here hx rfl (hb hby at_24) rfl rfl (l' := #[.val (.int p0_), .val (.int p1_), .val (.long q2_), .second, .val (.long q3_), .second, .val (.long q4_), .second, .val (.long q5_), .second, .val (.ref b1), .unset, .unset, .unset, .unset, .unset, .unset, .unset, .unset, .unset, .unset]) rfl ?_
    show Steps p.tables e below (T9.setTop (mkF m 26 #[.val (.int p0_), .val (.int p1_), .val (.long q2_), .second, .val (.long q3_), .second, .val (.long q4_), .second, .val (.long q5_), .second, .val (.ref b1), .unset, .unset, .unset, .unset, .unset, .unset, .unset, .unset, .unset, .unset] [])) _
    refine XS.iconst X9.here hx rfl (hb hby at_26) ?_
    show Steps p.tables e below (T9.setTop (mkF m 27 #[.val (.int p0_), .val (.int p1_), .val (.long q2_), .second, .val (.long q3_), .second, .val (.long q4_), .second, .val (.long q5_), .second, .val (.ref b1), .unset, .unset, .unset, .unset, .unset, .unset, .unset, .unset, .unset, .unset] [(.int (1 : Int32))])) _
    refine st13 _ ?_
    show Steps p.tables e below (T13.setTop (mkF m 29 #[.val (.int p0_), .val (.int p1_), .val (.long q2_), .second, .val (.long q3_), .second, .val (.long q4_), .second, .val (.long q5_), .second, .val (.ref b1), .unset, .unset, .unset, .unset, .unset, .unset, .unset, .unset, .unset, .unset] [(.ref b13)])) _
    refine XS.dup X13.here hx rfl (hb hby at_29) rfl rfl ?_
    show Steps p.tables e below (T13.setTop (mkF m 30 #[.val (.int p0_), .val (.int p1_), .val (.long q2_), .second, .val (.long q3_), .second, .val (.long q4_), .second, .val (.long q5_), .second, .val (.ref b1), .unset, .unset, .unset, .unset, .unset, .unset, .unset, .unset, .unset, .unset] [(.ref b13), (.ref b13)])) _
    refine XS.iconst X13.here hx rfl (hb hby at_30) ?_
    show Steps p.tables e below (T13.setTop (mkF m 31 #[.val (.int p0_), .val (.int p1_), .val (.long q2_), .second, .val (.long q3_), .second, .val (.long q4_), .second, .val (.long q5_), .second, .val (.ref b1), .unset, .unset, .unset, .unset, .unset, .unset, .unset, .unset, .unset, .unset] [(.int (0 : Int32)), (.ref b13), (.ref b13)])) _
    refine XS.iloadN X13.here hx rfl (hb hby at_31) rfl ?_
    show Steps p.tables e below (T13.setTop (mkF m 32 #[.val (.int p0_), .val (.int p1_), .val (.long q2_), .second, .val (.long q3_), .second, .val (.long q4_), .second, .val (.long q5_), .second, .val (.ref b1), .unset, .unset, .unset, .unset, .unset, .unset, .unset, .unset, .unset, .unset] [(.int p1_), (.int (0 : Int32)), (.ref b13), (.ref b13)])) _
    refine XS.sipush X13.here hx rfl (hb hby at_32) ?_
    show Steps p.tables e below (T13.setTop (mkF m 35 #[.val (.int p0_), .val (.int p1_), .val (.long q2_), .second, .val (.long q3_), .second, .val (.long q4_), .second, .val (.long q5_), .second, .val (.ref b1), .unset, .unset, .unset, .unset, .unset, .unset, .unset, .unset, .unset, .unset] [(.int (255 : Int32)), (.int p1_), (.int (0 : Int32)), (.ref b13), (.ref b13)])) _
    refine XS.iand X13.here hx rfl (hb hby at_35) rfl ?_
    show Steps p.tables e below (T13.setTop (mkF m 36 #[.val (.int p0_), .val (.int p1_), .val (.long q2_), .second, .val (.long q3_), .second, .val (.long q4_), .second, .val (.long q5_), .second, .val (.ref b1), .unset, .unset, .unset, .unset, .unset, .unset, .unset, .unset, .unset, .unset] [(.int (p1_ &&& (255 : Int32))), (.int (0 : Int32)), (.ref b13), (.ref b13)])) _
    refine XS.i2c X13.here hx rfl (hb hby at_36) rfl ?_
    show Steps p.tables e below (T13.setTop (mkF m 37 #[.val (.int p0_), .val (.int p1_), .val (.long q2_), .second, .val (.long q3_), .second, .val (.long q4_), .second, .val (.long q5_), .second, .val (.ref b1), .unset, .unset, .unset, .unset, .unset, .unset, .unset, .unset, .unset, .unset] [(.int ((p1_ &&& (255 : Int32)).toUInt32.toUInt16.toUInt32.toInt32)), (.int (0 : Int32)), (.ref b13), (.ref b13)])) _
    rw [i2c_mask]
    show Steps p.tables e below (T13.setTop (mkF m 37 #[.val (.int p0_), .val (.int p1_), .val (.long q2_), .second, .val (.long q3_), .second, .val (.long q4_), .second, .val (.long q5_), .second, .val (.ref b1), .unset, .unset, .unset, .unset, .unset, .unset, .unset, .unset, .unset, .unset] [(.int (p1_ &&& (255 : Int32))), (.int (0 : Int32)), (.ref b13), (.ref b13)])) _
    refine st23 _ ?_
    show Steps p.tables e below (T23.setTop (mkF m 38 #[.val (.int p0_), .val (.int p1_), .val (.long q2_), .second, .val (.long q3_), .second, .val (.long q4_), .second, .val (.long q5_), .second, .val (.ref b1), .unset, .unset, .unset, .unset, .unset, .unset, .unset, .unset, .unset, .unset] [(.ref b13)])) _
    refine XS.astore X23.here hx rfl (hb hby at_38) rfl rfl (l' := #[.val (.int p0_), .val (.int p1_), .val (.long q2_), .second, .val (.long q3_), .second, .val (.long q4_), .second, .val (.long q5_), .second, .val (.ref b1), .val (.ref b13), .unset, .unset, .unset, .unset, .unset, .unset, .unset, .unset, .unset]) rfl ?_
    show Steps p.tables e below (T23.setTop (mkF m 40 #[.val (.int p0_), .val (.int p1_), .val (.long q2_), .second, .val (.long q3_), .second, .val (.long q4_), .second, .val (.long q5_), .second, .val (.ref b1), .val (.ref b13), .unset, .unset, .unset, .unset, .unset, .unset, .unset, .unset, .unset] [])) _
    refine st27 _ ?_
    show Steps p.tables e below (T27.setTop (mkF m 43 #[.val (.int p0_), .val (.int p1_), .val (.long q2_), .second, .val (.long q3_), .second, .val (.long q4_), .second, .val (.long q5_), .second, .val (.ref b1), .val (.ref b13), .unset, .unset, .unset, .unset, .unset, .unset, .unset, .unset, .unset] [(.ref b27)])) _
    refine XS.dup X27.here hx rfl (hb hby at_43) rfl rfl ?_
    show Steps p.tables e below (T27.setTop (mkF m 44 #[.val (.int p0_), .val (.int p1_), .val (.long q2_), .second, .val (.long q3_), .second, .val (.long q4_), .second, .val (.long q5_), .second, .val (.ref b1), .val (.ref b13), .unset, .unset, .unset, .unset, .unset, .unset, .unset, .unset, .unset] [(.ref b27), (.ref b27)])) _
    refine XS.aload X27.here hx rfl (hb hby at_44) rfl rfl ?_
    show Steps p.tables e below (T27.setTop (mkF m 46 #[.val (.int p0_), .val (.int p1_), .val (.long q2_), .second, .val (.long q3_), .second, .val (.long q4_), .second, .val (.long q5_), .second, .val (.ref b1), .val (.ref b13), .unset, .unset, .unset, .unset, .unset, .unset, .unset, .unset, .unset] [(.ref b1), (.ref b27), (.ref b27)])) _
    refine st39.trans ?_
    show Steps p.tables e below (T39.setTop (mkF m 49 #[.val (.int p0_), .val (.int p1_), .val (.long q2_), .second, .val (.long q3_), .second, .val (.long q4_), .second, .val (.long q5_), .second, .val (.ref b1), .val (.ref b13), .unset, .unset, .unset, .unset, .unset, .unset, .unset, .unset, .unset] [(.ref b27)])) _
    refine XS.astore X39.here hx rfl (hb hby at_49) rfl rfl (l' := #[.val (.int p0_), .val (.int p1_), .val (.long q2_), .second, .val (.long q3_), .second, .val (.long q4_), .second, .val (.long q5_), .second, .val (.ref b1), .val (.ref b13), .val (.ref b27), .unset, .unset, .unset, .unset, .unset, .unset, .unset, .unset]) rfl ?_
    show Steps p.tables e below (T39.setTop (mkF m 51 #[.val (.int p0_), .val (.int p1_), .val (.long q2_), .second, .val (.long q3_), .second, .val (.long q4_), .second, .val (.long q5_), .second, .val (.ref b1), .val (.ref b13), .val (.ref b27), .unset, .unset, .unset, .unset, .unset, .unset, .unset, .unset] [])) _
    refine st54 _ ?_
    show Steps p.tables e below (T54.setTop (mkF m 54 #[.val (.int p0_), .val (.int p1_), .val (.long q2_), .second, .val (.long q3_), .second, .val (.long q4_), .second, .val (.long q5_), .second, .val (.ref b1), .val (.ref b13), .val (.ref b27), .unset, .unset, .unset, .unset, .unset, .unset, .unset, .unset] [(.ref b54)])) _
    refine XS.dup X54.here hx rfl (hb hby at_54) rfl rfl ?_
    show Steps p.tables e below (T54.setTop (mkF m 55 #[.val (.int p0_), .val (.int p1_), .val (.long q2_), .second, .val (.long q3_), .second, .val (.long q4_), .second, .val (.long q5_), .second, .val (.ref b1), .val (.ref b13), .val (.ref b27), .unset, .unset, .unset, .unset, .unset, .unset, .unset, .unset] [(.ref b54), (.ref b54)])) _
    refine XS.aload X54.here hx rfl (hb hby at_55) rfl rfl ?_
    show Steps p.tables e below (T54.setTop (mkF m 57 #[.val (.int p0_), .val (.int p1_), .val (.long q2_), .second, .val (.long q3_), .second, .val (.long q4_), .second, .val (.long q5_), .second, .val (.ref b1), .val (.ref b13), .val (.ref b27), .unset, .unset, .unset, .unset, .unset, .unset, .unset, .unset] [(.ref b13), (.ref b54), (.ref b54)])) _
    refine st61.trans ?_
    show Steps p.tables e below (T61.setTop (mkF m 60 #[.val (.int p0_), .val (.int p1_), .val (.long q2_), .second, .val (.long q3_), .second, .val (.long q4_), .second, .val (.long q5_), .second, .val (.ref b1), .val (.ref b13), .val (.ref b27), .unset, .unset, .unset, .unset, .unset, .unset, .unset, .unset] [(.ref b54)])) _
    refine XS.astore X61.here hx rfl (hb hby at_60) rfl rfl (l' := #[.val (.int p0_), .val (.int p1_), .val (.long q2_), .second, .val (.long q3_), .second, .val (.long q4_), .second, .val (.long q5_), .second, .val (.ref b1), .val (.ref b13), .val (.ref b27), .val (.ref b54), .unset, .unset, .unset, .unset, .unset, .unset, .unset]) rfl ?_
    show Steps p.tables e below (T61.setTop (mkF m 62 #[.val (.int p0_), .val (.int p1_), .val (.long q2_), .second, .val (.long q3_), .second, .val (.long q4_), .second, .val (.long q5_), .second, .val (.ref b1), .val (.ref b13), .val (.ref b27), .val (.ref b54), .unset, .unset, .unset, .unset, .unset, .unset, .unset] [])) _
    refine st75 _ ?_
    show Steps p.tables e below (T75.setTop (mkF m 65 #[.val (.int p0_), .val (.int p1_), .val (.long q2_), .second, .val (.long q3_), .second, .val (.long q4_), .second, .val (.long q5_), .second, .val (.ref b1), .val (.ref b13), .val (.ref b27), .val (.ref b54), .unset, .unset, .unset, .unset, .unset, .unset, .unset] [(.ref b75)])) _
    refine XS.dup X75.here hx rfl (hb hby at_65) rfl rfl ?_
    show Steps p.tables e below (T75.setTop (mkF m 66 #[.val (.int p0_), .val (.int p1_), .val (.long q2_), .second, .val (.long q3_), .second, .val (.long q4_), .second, .val (.long q5_), .second, .val (.ref b1), .val (.ref b13), .val (.ref b27), .val (.ref b54), .unset, .unset, .unset, .unset, .unset, .unset, .unset] [(.ref b75), (.ref b75)])) _
    refine XS.aload X75.here hx rfl (hb hby at_66) rfl rfl ?_
    show Steps p.tables e below (T75.setTop (mkF m 68 #[.val (.int p0_), .val (.int p1_), .val (.long q2_), .second, .val (.long q3_), .second, .val (.long q4_), .second, .val (.long q5_), .second, .val (.ref b1), .val (.ref b13), .val (.ref b27), .val (.ref b54), .unset, .unset, .unset, .unset, .unset, .unset, .unset] [(.ref b27), (.ref b75), (.ref b75)])) _
    refine XS.iloadN X75.here hx rfl (hb hby at_68) rfl ?_
    show Steps p.tables e below (T75.setTop (mkF m 69 #[.val (.int p0_), .val (.int p1_), .val (.long q2_), .second, .val (.long q3_), .second, .val (.long q4_), .second, .val (.long q5_), .second, .val (.ref b1), .val (.ref b13), .val (.ref b27), .val (.ref b54), .unset, .unset, .unset, .unset, .unset, .unset, .unset] [(.int p0_), (.ref b27), (.ref b75), (.ref b75)])) _
    refine XS.lloadN X75.here hx rfl (hb hby at_69) rfl ?_
    show Steps p.tables e below (T75.setTop (mkF m 70 #[.val (.int p0_), .val (.int p1_), .val (.long q2_), .second, .val (.long q3_), .second, .val (.long q4_), .second, .val (.long q5_), .second, .val (.ref b1), .val (.ref b13), .val (.ref b27), .val (.ref b54), .unset, .unset, .unset, .unset, .unset, .unset, .unset] [(.long q2_), (.int p0_), (.ref b27), (.ref b75), (.ref b75)])) _
    refine XS.lload X75.here hx rfl (hb hby at_70) rfl ?_
    show Steps p.tables e below (T75.setTop (mkF m 72 #[.val (.int p0_), .val (.int p1_), .val (.long q2_), .second, .val (.long q3_), .second, .val (.long q4_), .second, .val (.long q5_), .second, .val (.ref b1), .val (.ref b13), .val (.ref b27), .val (.ref b54), .unset, .unset, .unset, .unset, .unset, .unset, .unset] [(.long q4_), (.long q2_), (.int p0_), (.ref b27), (.ref b75), (.ref b75)])) _
    refine st84.trans ?_
    show Steps p.tables e below (T84.setTop (mkF m 75 #[.val (.int p0_), .val (.int p1_), .val (.long q2_), .second, .val (.long q3_), .second, .val (.long q4_), .second, .val (.long q5_), .second, .val (.ref b1), .val (.ref b13), .val (.ref b27), .val (.ref b54), .unset, .unset, .unset, .unset, .unset, .unset, .unset] [(.ref b75)])) _
    refine XS.astore X84.here hx rfl (hb hby at_75) rfl rfl (l' := #[.val (.int p0_), .val (.int p1_), .val (.long q2_), .second, .val (.long q3_), .second, .val (.long q4_), .second, .val (.long q5_), .second, .val (.ref b1), .val (.ref b13), .val (.ref b27), .val (.ref b54), .val (.ref b75), .unset, .unset, .unset, .unset, .unset, .unset]) rfl ?_
    show Steps p.tables e below (T84.setTop (mkF m 77 #[.val (.int p0_), .val (.int p1_), .val (.long q2_), .second, .val (.long q3_), .second, .val (.long q4_), .second, .val (.long q5_), .second, .val (.ref b1), .val (.ref b13), .val (.ref b27), .val (.ref b54), .val (.ref b75), .unset, .unset, .unset, .unset, .unset, .unset] [])) _
    refine st104 _ ?_
    show Steps p.tables e below (T104.setTop (mkF m 80 #[.val (.int p0_), .val (.int p1_), .val (.long q2_), .second, .val (.long q3_), .second, .val (.long q4_), .second, .val (.long q5_), .second, .val (.ref b1), .val (.ref b13), .val (.ref b27), .val (.ref b54), .val (.ref b75), .unset, .unset, .unset, .unset, .unset, .unset] [(.ref b104)])) _
    refine XS.dup X104.here hx rfl (hb hby at_80) rfl rfl ?_
    show Steps p.tables e below (T104.setTop (mkF m 81 #[.val (.int p0_), .val (.int p1_), .val (.long q2_), .second, .val (.long q3_), .second, .val (.long q4_), .second, .val (.long q5_), .second, .val (.ref b1), .val (.ref b13), .val (.ref b27), .val (.ref b54), .val (.ref b75), .unset, .unset, .unset, .unset, .unset, .unset] [(.ref b104), (.ref b104)])) _
    refine XS.aload X104.here hx rfl (hb hby at_81) rfl rfl ?_
    show Steps p.tables e below (T104.setTop (mkF m 83 #[.val (.int p0_), .val (.int p1_), .val (.long q2_), .second, .val (.long q3_), .second, .val (.long q4_), .second, .val (.long q5_), .second, .val (.ref b1), .val (.ref b13), .val (.ref b27), .val (.ref b54), .val (.ref b75), .unset, .unset, .unset, .unset, .unset, .unset] [(.ref b54), (.ref b104), (.ref b104)])) _
    refine XS.iloadN X104.here hx rfl (hb hby at_83) rfl ?_
    show Steps p.tables e below (T104.setTop (mkF m 84 #[.val (.int p0_), .val (.int p1_), .val (.long q2_), .second, .val (.long q3_), .second, .val (.long q4_), .second, .val (.long q5_), .second, .val (.ref b1), .val (.ref b13), .val (.ref b27), .val (.ref b54), .val (.ref b75), .unset, .unset, .unset, .unset, .unset, .unset] [(.int p1_), (.ref b54), (.ref b104), (.ref b104)])) _
    refine XS.lload X104.here hx rfl (hb hby at_84) rfl ?_
    show Steps p.tables e below (T104.setTop (mkF m 86 #[.val (.int p0_), .val (.int p1_), .val (.long q2_), .second, .val (.long q3_), .second, .val (.long q4_), .second, .val (.long q5_), .second, .val (.ref b1), .val (.ref b13), .val (.ref b27), .val (.ref b54), .val (.ref b75), .unset, .unset, .unset, .unset, .unset, .unset] [(.long q3_), (.int p1_), (.ref b54), (.ref b104), (.ref b104)])) _
    refine XS.lload X104.here hx rfl (hb hby at_86) rfl ?_
    show Steps p.tables e below (T104.setTop (mkF m 88 #[.val (.int p0_), .val (.int p1_), .val (.long q2_), .second, .val (.long q3_), .second, .val (.long q4_), .second, .val (.long q5_), .second, .val (.ref b1), .val (.ref b13), .val (.ref b27), .val (.ref b54), .val (.ref b75), .unset, .unset, .unset, .unset, .unset, .unset] [(.long q5_), (.long q3_), (.int p1_), (.ref b54), (.ref b104), (.ref b104)])) _
    refine st114.trans ?_
    show Steps p.tables e below (T114.setTop (mkF m 91 #[.val (.int p0_), .val (.int p1_), .val (.long q2_), .second, .val (.long q3_), .second, .val (.long q4_), .second, .val (.long q5_), .second, .val (.ref b1), .val (.ref b13), .val (.ref b27), .val (.ref b54), .val (.ref b75), .unset, .unset, .unset, .unset, .unset, .unset] [(.ref b104)])) _
    refine XS.astore X114.here hx rfl (hb hby at_91) rfl rfl (l' := #[.val (.int p0_), .val (.int p1_), .val (.long q2_), .second, .val (.long q3_), .second, .val (.long q4_), .second, .val (.long q5_), .second, .val (.ref b1), .val (.ref b13), .val (.ref b27), .val (.ref b54), .val (.ref b75), .val (.ref b104), .unset, .unset, .unset, .unset, .unset]) rfl ?_
    show Steps p.tables e below (T114.setTop (mkF m 93 #[.val (.int p0_), .val (.int p1_), .val (.long q2_), .second, .val (.long q3_), .second, .val (.long q4_), .second, .val (.long q5_), .second, .val (.ref b1), .val (.ref b13), .val (.ref b27), .val (.ref b54), .val (.ref b75), .val (.ref b104), .unset, .unset, .unset, .unset, .unset] [])) _
    refine XS.aload X114.here hx rfl (hb hby at_93) rfl rfl ?_
    show Steps p.tables e below (T114.setTop (mkF m 95 #[.val (.int p0_), .val (.int p1_), .val (.long q2_), .second, .val (.long q3_), .second, .val (.long q4_), .second, .val (.long q5_), .second, .val (.ref b1), .val (.ref b13), .val (.ref b27), .val (.ref b54), .val (.ref b75), .val (.ref b104), .unset, .unset, .unset, .unset, .unset] [(.ref b75)])) _
    refine XS.aload X114.here hx rfl (hb hby at_95) rfl rfl ?_
    show Steps p.tables e below (T114.setTop (mkF m 97 #[.val (.int p0_), .val (.int p1_), .val (.long q2_), .second, .val (.long q3_), .second, .val (.long q4_), .second, .val (.long q5_), .second, .val (.ref b1), .val (.ref b13), .val (.ref b27), .val (.ref b54), .val (.ref b75), .val (.ref b104), .unset, .unset, .unset, .unset, .unset] [(.ref b104), (.ref b75)])) _
    refine st134.trans ?_
    show Steps p.tables e below (T134.setTop (mkF m 100 #[.val (.int p0_), .val (.int p1_), .val (.long q2_), .second, .val (.long q3_), .second, .val (.long q4_), .second, .val (.long q5_), .second, .val (.ref b1), .val (.ref b13), .val (.ref b27), .val (.ref b54), .val (.ref b75), .val (.ref b104), .unset, .unset, .unset, .unset, .unset] [(.ref nb1_134)])) _
    refine XS.astore X134.here hx rfl (hb hby at_100) rfl rfl (l' := #[.val (.int p0_), .val (.int p1_), .val (.long q2_), .second, .val (.long q3_), .second, .val (.long q4_), .second, .val (.long q5_), .second, .val (.ref b1), .val (.ref b13), .val (.ref b27), .val (.ref b54), .val (.ref b75), .val (.ref b104), .val (.ref nb1_134), .unset, .unset, .unset, .unset]) rfl ?_
    show Steps p.tables e below (T134.setTop (mkF m 102 #[.val (.int p0_), .val (.int p1_), .val (.long q2_), .second, .val (.long q3_), .second, .val (.long q4_), .second, .val (.long q5_), .second, .val (.ref b1), .val (.ref b13), .val (.ref b27), .val (.ref b54), .val (.ref b75), .val (.ref b104), .val (.ref nb1_134), .unset, .unset, .unset, .unset] [])) _
    refine XS.aload X134.here hx rfl (hb hby at_102) rfl rfl ?_
    show Steps p.tables e below (T134.setTop (mkF m 104 #[.val (.int p0_), .val (.int p1_), .val (.long q2_), .second, .val (.long q3_), .second, .val (.long q4_), .second, .val (.long q5_), .second, .val (.ref b1), .val (.ref b13), .val (.ref b27), .val (.ref b54), .val (.ref b75), .val (.ref b104), .val (.ref nb1_134), .unset, .unset, .unset, .unset] [(.ref nb1_134)])) _
    refine st178.trans ?_
    show Steps p.tables e below (T178.setTop (mkF m 107 #[.val (.int p0_), .val (.int p1_), .val (.long q2_), .second, .val (.long q3_), .second, .val (.long q4_), .second, .val (.long q5_), .second, .val (.ref b1), .val (.ref b13), .val (.ref b27), .val (.ref b54), .val (.ref b75), .val (.ref b104), .val (.ref nb1_134), .unset, .unset, .unset, .unset] [(.ref b27)])) _
    refine XS.aload X178.here hx rfl (hb hby at_107) rfl rfl ?_
    show Steps p.tables e below (T178.setTop (mkF m 109 #[.val (.int p0_), .val (.int p1_), .val (.long q2_), .second, .val (.long q3_), .second, .val (.long q4_), .second, .val (.long q5_), .second, .val (.ref b1), .val (.ref b13), .val (.ref b27), .val (.ref b54), .val (.ref b75), .val (.ref b104), .val (.ref nb1_134), .unset, .unset, .unset, .unset] [(.ref b27), (.ref b27)])) _
    refine st186.trans ?_
    show Steps p.tables e below (T186.setTop (mkF m 112 #[.val (.int p0_), .val (.int p1_), .val (.long q2_), .second, .val (.long q3_), .second, .val (.long q4_), .second, .val (.long q5_), .second, .val (.ref b1), .val (.ref b13), .val (.ref b27), .val (.ref b54), .val (.ref b75), .val (.ref b104), .val (.ref nb1_134), .unset, .unset, .unset, .unset] [(.int (1 : Int32))])) _
    refine XS.istore X186.here hx rfl (hb hby at_112) rfl (l' := #[.val (.int p0_), .val (.int p1_), .val (.long q2_), .second, .val (.long q3_), .second, .val (.long q4_), .second, .val (.long q5_), .second, .val (.ref b1), .val (.ref b13), .val (.ref b27), .val (.ref b54), .val (.ref b75), .val (.ref b104), .val (.ref nb1_134), .val (.int (1 : Int32)), .unset, .unset, .unset]) rfl ?_
    show Steps p.tables e below (T186.setTop (mkF m 114 #[.val (.int p0_), .val (.int p1_), .val (.long q2_), .second, .val (.long q3_), .second, .val (.long q4_), .second, .val (.long q5_), .second, .val (.ref b1), .val (.ref b13), .val (.ref b27), .val (.ref b54), .val (.ref b75), .val (.ref b104), .val (.ref nb1_134), .val (.int (1 : Int32)), .unset, .unset, .unset] [])) _
    refine XS.aload X186.here hx rfl (hb hby at_114) rfl rfl ?_
    show Steps p.tables e below (T186.setTop (mkF m 116 #[.val (.int p0_), .val (.int p1_), .val (.long q2_), .second, .val (.long q3_), .second, .val (.long q4_), .second, .val (.long q5_), .second, .val (.ref b1), .val (.ref b13), .val (.ref b27), .val (.ref b54), .val (.ref b75), .val (.ref b104), .val (.ref nb1_134), .val (.int (1 : Int32)), .unset, .unset, .unset] [(.ref nb1_134)])) _
    refine st188.trans ?_
    show Steps p.tables e below (T188.setTop (mkF m 119 #[.val (.int p0_), .val (.int p1_), .val (.long q2_), .second, .val (.long q3_), .second, .val (.long q4_), .second, .val (.long q5_), .second, .val (.ref b1), .val (.ref b13), .val (.ref b27), .val (.ref b54), .val (.ref b75), .val (.ref b104), .val (.ref nb1_134), .val (.int (1 : Int32)), .unset, .unset, .unset] [(.int (p0_ + p1_))])) _
    refine XS.iloadN X188.here hx rfl (hb hby at_119) rfl ?_
    show Steps p.tables e below (T188.setTop (mkF m 120 #[.val (.int p0_), .val (.int p1_), .val (.long q2_), .second, .val (.long q3_), .second, .val (.long q4_), .second, .val (.long q5_), .second, .val (.ref b1), .val (.ref b13), .val (.ref b27), .val (.ref b54), .val (.ref b75), .val (.ref b104), .val (.ref nb1_134), .val (.int (1 : Int32)), .unset, .unset, .unset] [(.int p0_), (.int (p0_ + p1_))])) _
    refine XS.iloadN X188.here hx rfl (hb hby at_120) rfl ?_
    show Steps p.tables e below (T188.setTop (mkF m 121 #[.val (.int p0_), .val (.int p1_), .val (.long q2_), .second, .val (.long q3_), .second, .val (.long q4_), .second, .val (.long q5_), .second, .val (.ref b1), .val (.ref b13), .val (.ref b27), .val (.ref b54), .val (.ref b75), .val (.ref b104), .val (.ref nb1_134), .val (.int (1 : Int32)), .unset, .unset, .unset] [(.int p1_), (.int p0_), (.int (p0_ + p1_))])) _
    refine XS.iadd X188.here hx rfl (hb hby at_121) rfl ?_
    show Steps p.tables e below (T188.setTop (mkF m 122 #[.val (.int p0_), .val (.int p1_), .val (.long q2_), .second, .val (.long q3_), .second, .val (.long q4_), .second, .val (.long q5_), .second, .val (.ref b1), .val (.ref b13), .val (.ref b27), .val (.ref b54), .val (.ref b75), .val (.ref b104), .val (.ref nb1_134), .val (.int (1 : Int32)), .unset, .unset, .unset] [(.int (p0_ + p1_)), (.int (p0_ + p1_))])) _
    refine XS.icmpNo X188.here hx rfl (hb hby at_122) rfl (teq (rfl : (p0_ + p1_) = (p0_ + p1_))).2 ?_
    show Steps p.tables e below (T188.setTop (mkF m 125 #[.val (.int p0_), .val (.int p1_), .val (.long q2_), .second, .val (.long q3_), .second, .val (.long q4_), .second, .val (.long q5_), .second, .val (.ref b1), .val (.ref b13), .val (.ref b27), .val (.ref b54), .val (.ref b75), .val (.ref b104), .val (.ref nb1_134), .val (.int (1 : Int32)), .unset, .unset, .unset] [])) _
    refine XS.iconst X188.here hx rfl (hb hby at_125) ?_
    show Steps p.tables e below (T188.setTop (mkF m 126 #[.val (.int p0_), .val (.int p1_), .val (.long q2_), .second, .val (.long q3_), .second, .val (.long q4_), .second, .val (.long q5_), .second, .val (.ref b1), .val (.ref b13), .val (.ref b27), .val (.ref b54), .val (.ref b75), .val (.ref b104), .val (.ref nb1_134), .val (.int (1 : Int32)), .unset, .unset, .unset] [(.int (1 : Int32))])) _
    refine XS.goto X188.here hx rfl (pc0 := 126) (pc' := 130) rfl (hb hby at_126) (by decide) (by decide) ?_
    show Steps p.tables e below (T188.setTop (mkF m 130 #[.val (.int p0_), .val (.int p1_), .val (.long q2_), .second, .val (.long q3_), .second, .val (.long q4_), .second, .val (.long q5_), .second, .val (.ref b1), .val (.ref b13), .val (.ref b27), .val (.ref b54), .val (.ref b75), .val (.ref b104), .val (.ref nb1_134), .val (.int (1 : Int32)), .unset, .unset, .unset] [(.int (1 : Int32))])) _
    refine XS.istore X188.here hx rfl (hb hby at_130) rfl (l' := #[.val (.int p0_), .val (.int p1_), .val (.long q2_), .second, .val (.long q3_), .second, .val (.long q4_), .second, .val (.long q5_), .second, .val (.ref b1), .val (.ref b13), .val (.ref b27), .val (.ref b54), .val (.ref b75), .val (.ref b104), .val (.ref nb1_134), .val (.int (1 : Int32)), .val (.int (1 : Int32)), .unset, .unset]) rfl ?_
    show Steps p.tables e below (T188.setTop (mkF m 132 #[.val (.int p0_), .val (.int p1_), .val (.long q2_), .second, .val (.long q3_), .second, .val (.long q4_), .second, .val (.long q5_), .second, .val (.ref b1), .val (.ref b13), .val (.ref b27), .val (.ref b54), .val (.ref b75), .val (.ref b104), .val (.ref nb1_134), .val (.int (1 : Int32)), .val (.int (1 : Int32)), .unset, .unset] [])) _
    refine XS.aload X188.here hx rfl (hb hby at_132) rfl rfl ?_
    show Steps p.tables e below (T188.setTop (mkF m 134 #[.val (.int p0_), .val (.int p1_), .val (.long q2_), .second, .val (.long q3_), .second, .val (.long q4_), .second, .val (.long q5_), .second, .val (.ref b1), .val (.ref b13), .val (.ref b27), .val (.ref b54), .val (.ref b75), .val (.ref b104), .val (.ref nb1_134), .val (.int (1 : Int32)), .val (.int (1 : Int32)), .unset, .unset] [(.ref nb1_134)])) _
    refine st190.trans ?_
    show Steps p.tables e below (T190.setTop (mkF m 137 #[.val (.int p0_), .val (.int p1_), .val (.long q2_), .second, .val (.long q3_), .second, .val (.long q4_), .second, .val (.long q5_), .second, .val (.ref b1), .val (.ref b13), .val (.ref b27), .val (.ref b54), .val (.ref b75), .val (.ref b104), .val (.ref nb1_134), .val (.int (1 : Int32)), .val (.int (1 : Int32)), .unset, .unset] [(.long (q2_ + q3_))])) _
    refine XS.lloadN X190.here hx rfl (hb hby at_137) rfl ?_
    show Steps p.tables e below (T190.setTop (mkF m 138 #[.val (.int p0_), .val (.int p1_), .val (.long q2_), .second, .val (.long q3_), .second, .val (.long q4_), .second, .val (.long q5_), .second, .val (.ref b1), .val (.ref b13), .val (.ref b27), .val (.ref b54), .val (.ref b75), .val (.ref b104), .val (.ref nb1_134), .val (.int (1 : Int32)), .val (.int (1 : Int32)), .unset, .unset] [(.long q2_), (.long (q2_ + q3_))])) _
    refine XS.lload X190.here hx rfl (hb hby at_138) rfl ?_
    show Steps p.tables e below (T190.setTop (mkF m 140 #[.val (.int p0_), .val (.int p1_), .val (.long q2_), .second, .val (.long q3_), .second, .val (.long q4_), .second, .val (.long q5_), .second, .val (.ref b1), .val (.ref b13), .val (.ref b27), .val (.ref b54), .val (.ref b75), .val (.ref b104), .val (.ref nb1_134), .val (.int (1 : Int32)), .val (.int (1 : Int32)), .unset, .unset] [(.long q3_), (.long q2_), (.long (q2_ + q3_))])) _
    refine XS.ladd X190.here hx rfl (hb hby at_140) rfl ?_
    show Steps p.tables e below (T190.setTop (mkF m 141 #[.val (.int p0_), .val (.int p1_), .val (.long q2_), .second, .val (.long q3_), .second, .val (.long q4_), .second, .val (.long q5_), .second, .val (.ref b1), .val (.ref b13), .val (.ref b27), .val (.ref b54), .val (.ref b75), .val (.ref b104), .val (.ref nb1_134), .val (.int (1 : Int32)), .val (.int (1 : Int32)), .unset, .unset] [(.long (q2_ + q3_)), (.long (q2_ + q3_))])) _
    refine XS.lcmp X190.here hx rfl (hb hby at_141) rfl ?_
    show Steps p.tables e below (T190.setTop (mkF m 142 #[.val (.int p0_), .val (.int p1_), .val (.long q2_), .second, .val (.long q3_), .second, .val (.long q4_), .second, .val (.long q5_), .second, .val (.ref b1), .val (.ref b13), .val (.ref b27), .val (.ref b54), .val (.ref b75), .val (.ref b104), .val (.ref nb1_134), .val (.int (1 : Int32)), .val (.int (1 : Int32)), .unset, .unset] [(.int (lcmpW (q2_ + q3_) (q2_ + q3_)))])) _
    refine XS.ifNo X190.here hx rfl (hb hby at_142) rfl ((if0 _ _).trans (teq ((lw_eq _ _).mpr (rfl : (q2_ + q3_) = (q2_ + q3_)))).2) ?_
    show Steps p.tables e below (T190.setTop (mkF m 145 #[.val (.int p0_), .val (.int p1_), .val (.long q2_), .second, .val (.long q3_), .second, .val (.long q4_), .second, .val (.long q5_), .second, .val (.ref b1), .val (.ref b13), .val (.ref b27), .val (.ref b54), .val (.ref b75), .val (.ref b104), .val (.ref nb1_134), .val (.int (1 : Int32)), .val (.int (1 : Int32)), .unset, .unset] [])) _
    refine XS.iconst X190.here hx rfl (hb hby at_145) ?_
    show Steps p.tables e below (T190.setTop (mkF m 146 #[.val (.int p0_), .val (.int p1_), .val (.long q2_), .second, .val (.long q3_), .second, .val (.long q4_), .second, .val (.long q5_), .second, .val (.ref b1), .val (.ref b13), .val (.ref b27), .val (.ref b54), .val (.ref b75), .val (.ref b104), .val (.ref nb1_134), .val (.int (1 : Int32)), .val (.int (1 : Int32)), .unset, .unset] [(.int (1 : Int32))])) _
    refine XS.goto X190.here hx rfl (pc0 := 146) (pc' := 150) rfl (hb hby at_146) (by decide) (by decide) ?_
    show Steps p.tables e below (T190.setTop (mkF m 150 #[.val (.int p0_), .val (.int p1_), .val (.long q2_), .second, .val (.long q3_), .second, .val (.long q4_), .second, .val (.long q5_), .second, .val (.ref b1), .val (.ref b13), .val (.ref b27), .val (.ref b54), .val (.ref b75), .val (.ref b104), .val (.ref nb1_134), .val (.int (1 : Int32)), .val (.int (1 : Int32)), .unset, .unset] [(.int (1 : Int32))])) _
    refine XS.istore X190.here hx rfl (hb hby at_150) rfl (l' := #[.val (.int p0_), .val (.int p1_), .val (.long q2_), .second, .val (.long q3_), .second, .val (.long q4_), .second, .val (.long q5_), .second, .val (.ref b1), .val (.ref b13), .val (.ref b27), .val (.ref b54), .val (.ref b75), .val (.ref b104), .val (.ref nb1_134), .val (.int (1 : Int32)), .val (.int (1 : Int32)), .val (.int (1 : Int32)), .unset]) rfl ?_
    show Steps p.tables e below (T190.setTop (mkF m 152 #[.val (.int p0_), .val (.int p1_), .val (.long q2_), .second, .val (.long q3_), .second, .val (.long q4_), .second, .val (.long q5_), .second, .val (.ref b1), .val (.ref b13), .val (.ref b27), .val (.ref b54), .val (.ref b75), .val (.ref b104), .val (.ref nb1_134), .val (.int (1 : Int32)), .val (.int (1 : Int32)), .val (.int (1 : Int32)), .unset] [])) _
    refine XS.aload X190.here hx rfl (hb hby at_152) rfl rfl ?_
    show Steps p.tables e below (T190.setTop (mkF m 154 #[.val (.int p0_), .val (.int p1_), .val (.long q2_), .second, .val (.long q3_), .second, .val (.long q4_), .second, .val (.long q5_), .second, .val (.ref b1), .val (.ref b13), .val (.ref b27), .val (.ref b54), .val (.ref b75), .val (.ref b104), .val (.ref nb1_134), .val (.int (1 : Int32)), .val (.int (1 : Int32)), .val (.int (1 : Int32)), .unset] [(.ref nb1_134)])) _
    refine st192.trans ?_
    show Steps p.tables e below (T192.setTop (mkF m 157 #[.val (.int p0_), .val (.int p1_), .val (.long q2_), .second, .val (.long q3_), .second, .val (.long q4_), .second, .val (.long q5_), .second, .val (.ref b1), .val (.ref b13), .val (.ref b27), .val (.ref b54), .val (.ref b75), .val (.ref b104), .val (.ref nb1_134), .val (.int (1 : Int32)), .val (.int (1 : Int32)), .val (.int (1 : Int32)), .unset] [(.long (q4_ + q5_))])) _
    refine XS.lload X192.here hx rfl (hb hby at_157) rfl ?_
    show Steps p.tables e below (T192.setTop (mkF m 159 #[.val (.int p0_), .val (.int p1_), .val (.long q2_), .second, .val (.long q3_), .second, .val (.long q4_), .second, .val (.long q5_), .second, .val (.ref b1), .val (.ref b13), .val (.ref b27), .val (.ref b54), .val (.ref b75), .val (.ref b104), .val (.ref nb1_134), .val (.int (1 : Int32)), .val (.int (1 : Int32)), .val (.int (1 : Int32)), .unset] [(.long q4_), (.long (q4_ + q5_))])) _
    refine XS.lload X192.here hx rfl (hb hby at_159) rfl ?_
    show Steps p.tables e below (T192.setTop (mkF m 161 #[.val (.int p0_), .val (.int p1_), .val (.long q2_), .second, .val (.long q3_), .second, .val (.long q4_), .second, .val (.long q5_), .second, .val (.ref b1), .val (.ref b13), .val (.ref b27), .val (.ref b54), .val (.ref b75), .val (.ref b104), .val (.ref nb1_134), .val (.int (1 : Int32)), .val (.int (1 : Int32)), .val (.int (1 : Int32)), .unset] [(.long q5_), (.long q4_), (.long (q4_ + q5_))])) _
    refine XS.ladd X192.here hx rfl (hb hby at_161) rfl ?_
    show Steps p.tables e below (T192.setTop (mkF m 162 #[.val (.int p0_), .val (.int p1_), .val (.long q2_), .second, .val (.long q3_), .second, .val (.long q4_), .second, .val (.long q5_), .second, .val (.ref b1), .val (.ref b13), .val (.ref b27), .val (.ref b54), .val (.ref b75), .val (.ref b104), .val (.ref nb1_134), .val (.int (1 : Int32)), .val (.int (1 : Int32)), .val (.int (1 : Int32)), .unset] [(.long (q4_ + q5_)), (.long (q4_ + q5_))])) _
    refine XS.lcmp X192.here hx rfl (hb hby at_162) rfl ?_
    show Steps p.tables e below (T192.setTop (mkF m 163 #[.val (.int p0_), .val (.int p1_), .val (.long q2_), .second, .val (.long q3_), .second, .val (.long q4_), .second, .val (.long q5_), .second, .val (.ref b1), .val (.ref b13), .val (.ref b27), .val (.ref b54), .val (.ref b75), .val (.ref b104), .val (.ref nb1_134), .val (.int (1 : Int32)), .val (.int (1 : Int32)), .val (.int (1 : Int32)), .unset] [(.int (lcmpW (q4_ + q5_) (q4_ + q5_)))])) _
    refine XS.ifNo X192.here hx rfl (hb hby at_163) rfl ((if0 _ _).trans (teq ((lw_eq _ _).mpr (rfl : (q4_ + q5_) = (q4_ + q5_)))).2) ?_
    show Steps p.tables e below (T192.setTop (mkF m 166 #[.val (.int p0_), .val (.int p1_), .val (.long q2_), .second, .val (.long q3_), .second, .val (.long q4_), .second, .val (.long q5_), .second, .val (.ref b1), .val (.ref b13), .val (.ref b27), .val (.ref b54), .val (.ref b75), .val (.ref b104), .val (.ref nb1_134), .val (.int (1 : Int32)), .val (.int (1 : Int32)), .val (.int (1 : Int32)), .unset] [])) _
    refine XS.iconst X192.here hx rfl (hb hby at_166) ?_
    show Steps p.tables e below (T192.setTop (mkF m 167 #[.val (.int p0_), .val (.int p1_), .val (.long q2_), .second, .val (.long q3_), .second, .val (.long q4_), .second, .val (.long q5_), .second, .val (.ref b1), .val (.ref b13), .val (.ref b27), .val (.ref b54), .val (.ref b75), .val (.ref b104), .val (.ref nb1_134), .val (.int (1 : Int32)), .val (.int (1 : Int32)), .val (.int (1 : Int32)), .unset] [(.int (1 : Int32))])) _
    refine XS.goto X192.here hx rfl (pc0 := 167) (pc' := 171) rfl (hb hby at_167) (by decide) (by decide) ?_
    show Steps p.tables e below (T192.setTop (mkF m 171 #[.val (.int p0_), .val (.int p1_), .val (.long q2_), .second, .val (.long q3_), .second, .val (.long q4_), .second, .val (.long q5_), .second, .val (.ref b1), .val (.ref b13), .val (.ref b27), .val (.ref b54), .val (.ref b75), .val (.ref b104), .val (.ref nb1_134), .val (.int (1 : Int32)), .val (.int (1 : Int32)), .val (.int (1 : Int32)), .unset] [(.int (1 : Int32))])) _
    refine XS.istore X192.here hx rfl (hb hby at_171) rfl (l' := #[.val (.int p0_), .val (.int p1_), .val (.long q2_), .second, .val (.long q3_), .second, .val (.long q4_), .second, .val (.long q5_), .second, .val (.ref b1), .val (.ref b13), .val (.ref b27), .val (.ref b54), .val (.ref b75), .val (.ref b104), .val (.ref nb1_134), .val (.int (1 : Int32)), .val (.int (1 : Int32)), .val (.int (1 : Int32)), .val (.int (1 : Int32))]) rfl ?_
    show Steps p.tables e below (T192.setTop (mkF m 173 #[.val (.int p0_), .val (.int p1_), .val (.long q2_), .second, .val (.long q3_), .second, .val (.long q4_), .second, .val (.long q5_), .second, .val (.ref b1), .val (.ref b13), .val (.ref b27), .val (.ref b54), .val (.ref b75), .val (.ref b104), .val (.ref nb1_134), .val (.int (1 : Int32)), .val (.int (1 : Int32)), .val (.int (1 : Int32)), .val (.int (1 : Int32))] [])) _
    refine XS.iload X192.here hx rfl (hb hby at_173) rfl ?_
    show Steps p.tables e below (T192.setTop (mkF m 175 #[.val (.int p0_), .val (.int p1_), .val (.long q2_), .second, .val (.long q3_), .second, .val (.long q4_), .second, .val (.long q5_), .second, .val (.ref b1), .val (.ref b13), .val (.ref b27), .val (.ref b54), .val (.ref b75), .val (.ref b104), .val (.ref nb1_134), .val (.int (1 : Int32)), .val (.int (1 : Int32)), .val (.int (1 : Int32)), .val (.int (1 : Int32))] [(.int (1 : Int32))])) _
    refine XS.ifNo X192.here hx rfl (hb hby at_175) rfl ((if0 _ _).trans (feq (by decide : ¬ ((1 : Int32) = (0 : Int32)))).1) ?_
    show Steps p.tables e below (T192.setTop (mkF m 178 #[.val (.int p0_), .val (.int p1_), .val (.long q2_), .second, .val (.long q3_), .second, .val (.long q4_), .second, .val (.long q5_), .second, .val (.ref b1), .val (.ref b13), .val (.ref b27), .val (.ref b54), .val (.ref b75), .val (.ref b104), .val (.ref nb1_134), .val (.int (1 : Int32)), .val (.int (1 : Int32)), .val (.int (1 : Int32)), .val (.int (1 : Int32))] [])) _
    refine XS.iload X192.here hx rfl (hb hby at_178) rfl ?_
    show Steps p.tables e below (T192.setTop (mkF m 180 #[.val (.int p0_), .val (.int p1_), .val (.long q2_), .second, .val (.long q3_), .second, .val (.long q4_), .second, .val (.long q5_), .second, .val (.ref b1), .val (.ref b13), .val (.ref b27), .val (.ref b54), .val (.ref b75), .val (.ref b104), .val (.ref nb1_134), .val (.int (1 : Int32)), .val (.int (1 : Int32)), .val (.int (1 : Int32)), .val (.int (1 : Int32))] [(.int (1 : Int32))])) _
    refine XS.ifNo X192.here hx rfl (hb hby at_180) rfl ((if0 _ _).trans (feq (by decide : ¬ ((1 : Int32) = (0 : Int32)))).1) ?_
    show Steps p.tables e below (T192.setTop (mkF m 183 #[.val (.int p0_), .val (.int p1_), .val (.long q2_), .second, .val (.long q3_), .second, .val (.long q4_), .second, .val (.long q5_), .second, .val (.ref b1), .val (.ref b13), .val (.ref b27), .val (.ref b54), .val (.ref b75), .val (.ref b104), .val (.ref nb1_134), .val (.int (1 : Int32)), .val (.int (1 : Int32)), .val (.int (1 : Int32)), .val (.int (1 : Int32))] [])) _
    refine XS.iload X192.here hx rfl (hb hby at_183) rfl ?_
    show Steps p.tables e below (T192.setTop (mkF m 185 #[.val (.int p0_), .val (.int p1_), .val (.long q2_), .second, .val (.long q3_), .second, .val (.long q4_), .second, .val (.long q5_), .second, .val (.ref b1), .val (.ref b13), .val (.ref b27), .val (.ref b54), .val (.ref b75), .val (.ref b104), .val (.ref nb1_134), .val (.int (1 : Int32)), .val (.int (1 : Int32)), .val (.int (1 : Int32)), .val (.int (1 : Int32))] [(.int (1 : Int32))])) _
    refine XS.ifNo X192.here hx rfl (hb hby at_185) rfl ((if0 _ _).trans (feq (by decide : ¬ ((1 : Int32) = (0 : Int32)))).1) ?_
    show Steps p.tables e below (T192.setTop (mkF m 188 #[.val (.int p0_), .val (.int p1_), .val (.long q2_), .second, .val (.long q3_), .second, .val (.long q4_), .second, .val (.long q5_), .second, .val (.ref b1), .val (.ref b13), .val (.ref b27), .val (.ref b54), .val (.ref b75), .val (.ref b104), .val (.ref nb1_134), .val (.int (1 : Int32)), .val (.int (1 : Int32)), .val (.int (1 : Int32)), .val (.int (1 : Int32))] [])) _
    refine XS.iload X192.here hx rfl (hb hby at_188) rfl ?_
    show Steps p.tables e below (T192.setTop (mkF m 190 #[.val (.int p0_), .val (.int p1_), .val (.long q2_), .second, .val (.long q3_), .second, .val (.long q4_), .second, .val (.long q5_), .second, .val (.ref b1), .val (.ref b13), .val (.ref b27), .val (.ref b54), .val (.ref b75), .val (.ref b104), .val (.ref nb1_134), .val (.int (1 : Int32)), .val (.int (1 : Int32)), .val (.int (1 : Int32)), .val (.int (1 : Int32))] [(.int (1 : Int32))])) _
    refine XS.ifNo X192.here hx rfl (hb hby at_190) rfl ((if0 _ _).trans (feq (by decide : ¬ ((1 : Int32) = (0 : Int32)))).1) ?_
    show Steps p.tables e below (T192.setTop (mkF m 193 #[.val (.int p0_), .val (.int p1_), .val (.long q2_), .second, .val (.long q3_), .second, .val (.long q4_), .second, .val (.long q5_), .second, .val (.ref b1), .val (.ref b13), .val (.ref b27), .val (.ref b54), .val (.ref b75), .val (.ref b104), .val (.ref nb1_134), .val (.int (1 : Int32)), .val (.int (1 : Int32)), .val (.int (1 : Int32)), .val (.int (1 : Int32))] [])) _
    refine XS.iconst X192.here hx rfl (hb hby at_193) ?_
    show Steps p.tables e below (T192.setTop (mkF m 194 #[.val (.int p0_), .val (.int p1_), .val (.long q2_), .second, .val (.long q3_), .second, .val (.long q4_), .second, .val (.long q5_), .second, .val (.ref b1), .val (.ref b13), .val (.ref b27), .val (.ref b54), .val (.ref b75), .val (.ref b104), .val (.ref nb1_134), .val (.int (1 : Int32)), .val (.int (1 : Int32)), .val (.int (1 : Int32)), .val (.int (1 : Int32))] [(.int (1 : Int32))])) _
    refine XS.goto X192.here hx rfl (pc0 := 194) (pc' := 198) rfl (hb hby at_194) (by decide) (by decide) ?_
    exact kt
  obtain ⟨fs, hr, hrun, hended, hW, hsame⟩ := X192.leave (v := some (.int (1 : Int32))) (fun h => by rw [Bd.returns] at h; cases h)
  refine ⟨_, _, pre194 _ (retN X192 hx (t := .boolean) Bd.returns (by simp) (hb hby at_198) hr), hrun, hended, _, _, rfl, ?_, ⟨_, rfl⟩, hW, hsame.mono (by decide) (by decide)⟩
  show QLaw Z p0_ p1_ q2_ q3_ q4_ q5_ w_COMPACT_STRINGS h0 n0 _ T192.heap _
  rw [e192']
  exact ⟨rfl, N193⟩
set_option maxRecDepth 65536 in
set_option maxHeartbeats 40000000 in
theorem comes_1 {Post : Tables → Env → Array Value → State → Outcome → State → Prop} (hpost : ∀ tb e args s v u, (limb_1_1.after args s (.returned v) u = true ∧ limb_1_2.after args s (.returned v) u = true ∧ True) → FrameEnd s (.returned v) u (Jvm.fieldLocs frame_1_writes args s ++ Jvm.arrayLocs frame_1_arrays args s ++ Jvm.staticLocs frame_1_statics s) 32 128 → Post tb e args s (.returned v) u) :
    ArmFor flags0 classFile x code maxLocals ret World_1 tables_1 room_1 Calls_1 rest_1 Pre_1 Post := by
  intro l hfl _ _ p e ha hc hk s m args below hf hA hF happ hP
  obtain ⟨hcalls, hrest, hpre⟩ := hP
  obtain ⟨-, -, -, hnamed, -, -, -, hat⟩ := (Spec.applies_iff hf).mp happ
  obtain ⟨hg, hn⟩ := and_e (Cond.before_iff.mp (show (Jvm.Cond.and given_1 narrow_1).before args s = true from hpre))
  obtain ⟨g1, g2⟩ := and_e hg
  obtain ⟨g3, g4⟩ := and_e g2
  obtain ⟨g5, g6⟩ := and_e g4
  obtain ⟨g7, g8⟩ := and_e g6
  obtain ⟨g9, g10⟩ := and_e g8
  obtain ⟨g11, g12⟩ := and_e g10
  obtain ⟨w0, w1, w2, w3, w4, w5, rfl⟩ : ∃ w0 w1 w2 w3 w4 w5 : Value, args = #[w0, w1, w2, w3, w4, w5] := by
    have hs : args.size = 6 := by simpa [Cond.value, given_1] using g1
    obtain ⟨L⟩ := args
    match L, hs with
    | [w0, w1, w2, w3, w4, w5], _ => exact ⟨w0, w1, w2, w3, w4, w5, rfl⟩
  have hw := fun d (hd : d ∈ tables_1) => atoms_spec (ws := Jvm.Cond.code x code maxLocals ret :: tables_1) hat d (List.mem_cons_of_mem _ hd)
  have hfit : Fit s := fun {y c} hc i hi => by
    obtain ⟨ha, rfl⟩ := Array.getElem?_eq_some_iff.mp hc
    have q := List.all_eq_true.mp ((Array.all_eq_true_iff_forall_mem.mp hF) _ (Array.getElem_mem ha)) i (List.mem_range.mpr hi)
    simpa [Array.getElem?_eq_getElem hi] using q
  obtain ⟨i0, ei0⟩ := is_v g3
  obtain rfl : w0 = (.int i0) := Option.some.inj ei0
  obtain ⟨i1, ei1⟩ := is_v g5
  obtain rfl : w1 = (.int i1) := Option.some.inj ei1
  obtain ⟨i2, ei2⟩ := isL_v g7
  obtain rfl : w2 = (.long i2) := Option.some.inj ei2
  obtain ⟨i3, ei3⟩ := isL_v g9
  obtain rfl : w3 = (.long i3) := Option.some.inj ei3
  obtain ⟨i4, ei4⟩ := isL_v g11
  obtain rfl : w4 = (.long i4) := Option.some.inj ei4
  obtain ⟨i5, ei5⟩ := isL_v g12
  obtain rfl : w5 = (.long i5) := Option.some.inj ei5
  have hr0 := Cond.before_iff.mp (show rest_1_c.before _ s = true from hrest)
  obtain ⟨g13, g14⟩ := and_e hr0
  obtain ⟨g15, g16⟩ := and_e g14
  obtain ⟨g17, g18⟩ := and_e g16
  obtain ⟨g19, g20⟩ := and_e g18
  obtain ⟨g21, g22⟩ := and_e g20
  obtain ⟨g23, g24⟩ := and_e g22
  obtain ⟨g25, g26⟩ := and_e g24
  obtain ⟨g27, g28⟩ := and_e g26
  obtain ⟨g29, g30⟩ := and_e g28
  obtain ⟨w_COMPACT_STRINGS, ev_w_COMPACT_STRINGS⟩ := is_v g15
  have S_w_COMPACT_STRINGS := Sta.start ev_w_COMPACT_STRINGS (Or.inl (Cond.before_iff.mpr g13))
  obtain ⟨n, o, h1, h2, h3, _, L, rfl, ⟨rfl, N⟩, hq⟩ := rmLaw l s _ hw tables_1 i0 i1 i2 i3 i4 i5 w_COMPACT_STRINGS s.heap s.heap.size (Old.start s) (own_nei g17 ev_w_COMPACT_STRINGS) S_w_COMPACT_STRINGS p e ha hc hk s m _ below hf ((Spec.applies_iff_loose hf).mp happ).1 ⟨rfl, State.Warmed39.refl s, rfl⟩ trivial
  refine ⟨n, _, h1, h2, h3, hpost _ _ _ _ _ _ ⟨Cond.after_iff.mpr rfl, Cond.after_iff.mpr (eq_i res_at (Term.int_eval (1)) rfl), trivial⟩ ⟨hq.1, hq.2.1, (hq.2.2.sift fun y hy => Or.inr (N y hy)).mono (by decide) (by decide)⟩⟩
theorem main_1_1 : Claimed_1_1 := comes_1 fun _ _ _ _ _ _ h hF => ⟨h.1, hF⟩
theorem main_1_2 : Claimed_1_2 := comes_1 fun _ _ _ _ _ _ h hF => ⟨h.2.1, hF⟩
end Jvm.Pilot.@@N@@
namespace Jvm.Pilot.@@N@@
open Jvm Jvm.ClassFile Sem Op Lib Jvm.Free Jvm.Stand Jvm.Pilot.@@N@@.Jvm.D
/-! MADE BY PROGRAM (witnessworld.py) out of the Statement's table words and the real class files: 21 classes; the members and pool entries that the words name. The judged class is class 1, her method 1. -/
namespace start1
open Jvm.ClassFile
def u (s : String) : CpInfo := .utf8 (stringToUtf16 s)
/-- a pool by its gaps: so many unusable entries, then the entry; so many at the end -/
def gap : Nat → List CpInfo → List CpInfo
  | 0, r => r
  | n + 1, r => .unusable :: gap n r
def poolList (es : List (Nat × CpInfo)) (last : Nat) : List CpInfo := es.foldr (fun e r => gap e.1 (e.2 :: r)) (gap last [])
def pool (es : List (Nat × CpInfo)) (last : Nat) : Array CpInfo := ⟨poolList es last⟩
def fileOf (pool : Array CpInfo) (this : Nat) (attrs : Array Attribute := #[]) (ms : Array MethodInfo := #[]) (fl : Nat := 33) (sup : Nat := 0) (ifs : Array Nat := #[]) (fds : Array FieldInfo := #[]) : ClassFile where
  minorVersion := 0
  majorVersion := 65
  constantPool := pool
  accessFlags := fl
  thisClass := this
  superClass := sup
  interfaces := ifs
  fields := fds
  methods := ms
  attributes := attrs
def plain (name : String) (sup : Option ClassId) : Class where
  name := name
  kind := .ordinary
  loader := none
  accessFlags := 33
  super := sup
  interfaces := #[]
  cf := none
  fields := #[]
  methods := #[]
  instanceTypes := #[]
  staticTypes := #[]
  resolved := #[]
  callSites := []
  init := .initialized
  statics := none
  mirror := none

def pool0 : Array CpInfo := pool [(5, u "<init>"), (0, u "()V"), (1, .class_ 10), (1, u "java/lang/Object")] 113

def k0c0 : Code := { maxStack := 0, maxLocals := 1, code := object_method_1_code, exceptionTable := #[], attributes := #[] }
def k0m0 : Method := { name := "<init>", desc := "()V", sig := { parameters := [], returnType := none }, accessFlags := 1, code := some k0c0 }
/-- java/lang/Object -/
def k0 : Class := { plain "java/lang/Object" none with
  accessFlags := 33
  interfaces := #[]
  cf := some (fileOf pool0 8 #[] #[{ accessFlags := 1, nameIndex := 5, descriptorIndex := 6, attributes := #[] }] 33 0 #[] #[])
  fields := #[]
  methods := #[k0m0]
  instanceTypes := #[]
  staticTypes := #[]
  resolved := Array.replicate 124 none
  statics := none }

def pool1 : Array CpInfo := pool [(2, .class_ 4), (1, u "java/lang/Object"), (0, u "<init>"), (0, u "()V"), (0, .class_ 8), (0, u "java/lang/String"), (0, .methodref 7 10), (0, .nameAndType 5 11), (0, u "([C)V"), (0, .class_ 13), (0, u "com/example/zenodotus/zenodotus/engine/FamilyStatus"), (0, .methodref 12 15), (0, .nameAndType 5 16), (0, u "(Ljava/lang/String;IJJ)V"), (0, .methodref 12 18), (0, .nameAndType 19 20), (0, u "plus"), (0, u "(Lcom/example/zenodotus/zenodotus/engine/FamilyStatus;)Lcom/example/zenodotus/zenodotus/engine/FamilyStatus;"), (0, .methodref 12 22), (0, .nameAndType 23 24), (0, u "family"), (0, u "()Ljava/lang/String;"), (0, .methodref 7 26), (0, .nameAndType 27 28), (0, u "equals"), (0, u "(Ljava/lang/Object;)Z"), (0, .methodref 12 30), (0, .nameAndType 31 32), (0, u "storeFiles"), (0, u "()I"), (0, .methodref 12 34), (0, .nameAndType 35 36), (0, u "storeCells"), (0, u "()J"), (0, .methodref 12 38), (0, .nameAndType 39 36), (0, u "memoryCells"), (0, .class_ 41), (0, u "com/example/zenodotus/zenodotus/engine/FamilyStatusPlusPinLaw"), (2, u "law"), (0, u "(IIJJJJ)Z")] 5

def k1m0 : Method := { name := "<init>", desc := "()V", sig := { parameters := [], returnType := none }, accessFlags := 1, code := none }
def k1c1 : Code := { maxStack := 8, maxLocals := 21, code := code, exceptionTable := #[], attributes := #[] }
def k1m1 : Method := { name := "law", desc := "(IIJJJJ)Z", sig := { parameters := [.int, .int, .long, .long, .long, .long], returnType := some .boolean }, accessFlags := 9, code := some k1c1 }
/-- com/example/zenodotus/zenodotus/engine/FamilyStatusPlusPinLaw -/
def k1 : Class := { plain "com/example/zenodotus/zenodotus/engine/FamilyStatusPlusPinLaw" (some 0) with
  accessFlags := 49
  interfaces := #[]
  cf := some (fileOf pool1 40 #[] #[{ accessFlags := 1, nameIndex := 5, descriptorIndex := 6, attributes := #[] }, { accessFlags := 9, nameIndex := 44, descriptorIndex := 45, attributes := #[] }] 49 2 #[] #[])
  fields := #[]
  methods := #[k1m0, k1m1]
  instanceTypes := #[]
  staticTypes := #[]
  resolved := Array.replicate 51 none
  statics := none }

def pool2 : Array CpInfo := pool [(1, .class_ 2), (0, u "java/io/Serializable"), (0, .class_ 4), (0, u "java/lang/Object")] 2

/-- java/io/Serializable -/
def k2 : Class := { plain "java/io/Serializable" (some 0) with
  accessFlags := 1537
  interfaces := #[]
  cf := some (fileOf pool2 1 #[] #[] 1537 3 #[] #[])
  fields := #[]
  methods := #[]
  instanceTypes := #[]
  staticTypes := #[]
  resolved := Array.replicate 7 none
  statics := none }

def pool3 : Array CpInfo := pool [(1, .class_ 2), (0, u "java/lang/Comparable"), (0, .class_ 4), (0, u "java/lang/Object")] 7

/-- java/lang/Comparable -/
def k3 : Class := { plain "java/lang/Comparable" (some 0) with
  accessFlags := 1537
  interfaces := #[]
  cf := some (fileOf pool3 1 #[] #[] 1537 3 #[] #[])
  fields := #[]
  methods := #[]
  instanceTypes := #[]
  staticTypes := #[]
  resolved := Array.replicate 12 none
  statics := none }

def pool4 : Array CpInfo := pool [(2, .class_ 4), (1, u "java/lang/CharSequence"), (42, .class_ 48), (0, u "java/lang/CharSequence$1CodePointIterator"), (10, .class_ 60), (0, u "java/lang/CharSequence$1CharIterator"), (5, .class_ 67), (0, u "java/lang/Object")] 63

/-- java/lang/CharSequence -/
def k4 : Class := { plain "java/lang/CharSequence" (some 0) with
  accessFlags := 1537
  interfaces := #[]
  cf := some (fileOf pool4 2 #[.nestMembers #[47, 59]] #[] 1537 66 #[] #[])
  fields := #[]
  methods := #[]
  instanceTypes := #[]
  staticTypes := #[]
  resolved := Array.replicate 131 none
  statics := none }

def pool5 : Array CpInfo := pool [(1, .class_ 2), (0, u "java/lang/constant/Constable"), (0, .class_ 4), (0, u "java/lang/Object")] 6

/-- java/lang/constant/Constable -/
def k5 : Class := { plain "java/lang/constant/Constable" (some 0) with
  accessFlags := 1537
  interfaces := #[]
  cf := some (fileOf pool5 1 #[] #[] 1537 3 #[] #[])
  fields := #[]
  methods := #[]
  instanceTypes := #[]
  staticTypes := #[]
  resolved := Array.replicate 11 none
  statics := none }

def pool6 : Array CpInfo := pool [(1, .class_ 2), (0, u "java/lang/constant/ConstantDesc"), (0, .class_ 4), (0, u "java/lang/Object")] 32

/-- java/lang/constant/ConstantDesc -/
def k6 : Class := { plain "java/lang/constant/ConstantDesc" (some 0) with
  accessFlags := 1537
  interfaces := #[]
  cf := some (fileOf pool6 1 #[] #[] 1537 3 #[] #[])
  fields := #[]
  methods := #[]
  instanceTypes := #[]
  staticTypes := #[]
  resolved := Array.replicate 37 none
  statics := none }

def pool7 : Array CpInfo := pool [(1, .methodref 2 3), (0, .class_ 4), (0, .nameAndType 5 6), (0, u "java/lang/Object"), (0, u "<init>"), (0, u "()V"), (2, .fieldref 10 11), (0, .class_ 12), (0, .nameAndType 13 14), (0, u "java/lang/String"), (0, u "value"), (0, u "[B"), (0, .fieldref 10 16), (0, .nameAndType 17 18), (0, u "coder"), (0, u "B"), (2, u "hash"), (0, u "I"), (2, u "hashIsZero"), (0, u "Z"), (0, .methodref 10 28), (0, .nameAndType 5 29), (0, u "([CIILjava/lang/Void;)V"), (8, .fieldref 10 39), (0, .nameAndType 40 26), (0, u "COMPACT_STRINGS"), (1, .class_ 44), (1, u "java/lang/StringUTF16"), (0, u "compress"), (1, .methodref 42 48), (0, .nameAndType 49 50), (0, u "coderFromArrayLen"), (0, u "([BI)B"), (126, .methodref 42 178), (0, .nameAndType 45 179), (0, u "([CII)[B"), (363, u "equals"), (29, u "(Ljava/lang/Object;)Z"), (1, .class_ 576), (0, u "java/lang/CharSequence"), (22, u "CASE_INSENSITIVE_ORDER"), (0, u "Ljava/util/Comparator;"), (409, u "([C)V"), (90, u "serialPersistentFields"), (0, u "[Ljava/io/ObjectStreamField;"), (0, .class_ 1104), (0, u "java/lang/String$CaseInsensitiveComparator"), (1, .class_ 1107), (0, u "java/io/Serializable"), (0, .class_ 1109), (0, u "java/lang/Comparable"), (0, .class_ 1111), (0, u "java/lang/constant/Constable"), (0, .class_ 1113), (0, u "java/lang/constant/ConstantDesc"), (2, u "serialVersionUID"), (0, u "J"), (3, u "REPL"), (0, u "C"), (2, u "LATIN1"), (1, u "UTF16")] 323

def k7m0 : Method := { name := "<init>", desc := "()V", sig := { parameters := [], returnType := none }, accessFlags := 1, code := none }
def k7c1 : Code := { maxStack := 5, maxLocals := 2, code := jdk_42_method_3_code, exceptionTable := #[], attributes := #[] }
def k7m1 : Method := { name := "<init>", desc := "([C)V", sig := { parameters := [(.array .char)], returnType := none }, accessFlags := 1, code := some k7c1 }
def k7c2 : Code := { maxStack := 2, maxLocals := 3, code := jdk_42_method_66_code, exceptionTable := #[], attributes := #[] }
def k7m2 : Method := { name := "equals", desc := "(Ljava/lang/Object;)Z", sig := { parameters := [(.object "java/lang/Object")], returnType := some .boolean }, accessFlags := 1, code := some k7c2 }
def k7c3 : Code := { maxStack := 4, maxLocals := 6, code := jdk_42_method_149_code, exceptionTable := #[], attributes := #[] }
def k7m3 : Method := { name := "<init>", desc := "([CIILjava/lang/Void;)V", sig := { parameters := [(.array .char), .int, .int, (.object "java/lang/Void")], returnType := none }, accessFlags := 2, code := some k7c3 }
/-- java/lang/String -/
def k7 : Class := { plain "java/lang/String" (some 0) with
  accessFlags := 49
  interfaces := #[2, 3, 4, 5, 6]
  cf := some (fileOf pool7 10 #[.nestMembers #[1103]] #[{ accessFlags := 1, nameIndex := 5, descriptorIndex := 6, attributes := #[] }, { accessFlags := 1, nameIndex := 5, descriptorIndex := 1010, attributes := #[] }, { accessFlags := 1, nameIndex := 543, descriptorIndex := 573, attributes := #[] }, { accessFlags := 2, nameIndex := 5, descriptorIndex := 29, attributes := #[] }] 49 2 #[1106, 1108, 575, 1110, 1112] #[{ accessFlags := 18, nameIndex := 13, descriptorIndex := 14, attributes := #[] }, { accessFlags := 18, nameIndex := 17, descriptorIndex := 18, attributes := #[] }, { accessFlags := 2, nameIndex := 21, descriptorIndex := 22, attributes := #[] }, { accessFlags := 2, nameIndex := 25, descriptorIndex := 26, attributes := #[] }, { accessFlags := 26, nameIndex := 1116, descriptorIndex := 1117, attributes := #[] }, { accessFlags := 24, nameIndex := 40, descriptorIndex := 26, attributes := #[] }, { accessFlags := 26, nameIndex := 1101, descriptorIndex := 1102, attributes := #[] }, { accessFlags := 26, nameIndex := 1121, descriptorIndex := 1122, attributes := #[] }, { accessFlags := 25, nameIndex := 599, descriptorIndex := 600, attributes := #[] }, { accessFlags := 24, nameIndex := 1125, descriptorIndex := 18, attributes := #[] }, { accessFlags := 24, nameIndex := 1127, descriptorIndex := 18, attributes := #[] }])
  fields := #[{ name := "value", type := (.array .byte), accessFlags := 18, slot := 0, constantValue := 0 }, { name := "coder", type := .byte, accessFlags := 18, slot := 1, constantValue := 0 }, { name := "hash", type := .int, accessFlags := 2, slot := 2, constantValue := 0 }, { name := "hashIsZero", type := .boolean, accessFlags := 2, slot := 3, constantValue := 0 }, { name := "serialVersionUID", type := .long, accessFlags := 26, slot := 0, constantValue := 0 }, { name := "COMPACT_STRINGS", type := .boolean, accessFlags := 24, slot := 1, constantValue := 0 }, { name := "serialPersistentFields", type := (.array (.object "java/io/ObjectStreamField")), accessFlags := 26, slot := 2, constantValue := 0 }, { name := "REPL", type := .char, accessFlags := 26, slot := 3, constantValue := 0 }, { name := "CASE_INSENSITIVE_ORDER", type := (.object "java/util/Comparator"), accessFlags := 25, slot := 4, constantValue := 0 }, { name := "LATIN1", type := .byte, accessFlags := 24, slot := 5, constantValue := 0 }, { name := "UTF16", type := .byte, accessFlags := 24, slot := 6, constantValue := 0 }]
  methods := #[k7m0, k7m1, k7m2, k7m3]
  instanceTypes := #[(.array .byte), .byte, .int, .boolean]
  staticTypes := #[.long, .boolean, (.array (.object "java/io/ObjectStreamField")), .char, (.object "java/util/Comparator"), .byte, .byte]
  resolved := Array.replicate 1451 none
  statics := some 0 }

def pool8 : Array CpInfo := pool [(6, .class_ 8), (1, u "java/lang/Object"), (0, u "<init>"), (0, u "()V"), (1, .class_ 14), (1, u "java/lang/StringUTF16"), (31, u "$assertionsDisabled"), (0, u "Z"), (13, u "HI_BYTE_SHIFT"), (0, u "I"), (2, u "LO_BYTE_SHIFT"), (49, .methodref 12 116), (0, .nameAndType 117 118), (0, u "compress"), (0, u "([CI[BII)I"), (3, u "([CII)[B"), (138, u "coderFromArrayLen"), (0, u "([BI)B"), (106, .class_ 371), (1, u "java/lang/StringUTF16$LinesSpliterator"), (58, u "MAX_LENGTH"), (196, .class_ 628), (0, u "java/lang/StringUTF16$CodePointsSpliterator"), (0, .class_ 630), (0, u "java/lang/StringUTF16$CharsSpliterator")] 4

def k8m0 : Method := { name := "<init>", desc := "()V", sig := { parameters := [], returnType := none }, accessFlags := 0, code := none }
def k8c1 : Code := { maxStack := 2, maxLocals := 2, code := jdk_52_method_15_code, exceptionTable := #[], attributes := #[] }
def k8m1 : Method := { name := "coderFromArrayLen", desc := "([BI)B", sig := { parameters := [(.array .byte), .int], returnType := some .byte }, accessFlags := 8, code := some k8c1 }
def k8c2 : Code := { maxStack := 5, maxLocals := 6, code := jdk_52_method_16_code, exceptionTable := #[], attributes := #[] }
def k8m2 : Method := { name := "compress", desc := "([CII)[B", sig := { parameters := [(.array .char), .int, .int], returnType := some (.array .byte) }, accessFlags := 9, code := some k8c2 }
def k8c3 : Code := { maxStack := 3, maxLocals := 7, code := jdk_52_method_21_code, exceptionTable := #[], attributes := #[] }
def k8m3 : Method := { name := "compress", desc := "([CI[BII)I", sig := { parameters := [(.array .char), .int, (.array .byte), .int, .int], returnType := some .int }, accessFlags := 9, code := some k8c3 }
/-- java/lang/StringUTF16 -/
def k8 : Class := { plain "java/lang/StringUTF16" (some 0) with
  accessFlags := 48
  interfaces := #[]
  cf := some (fileOf pool8 12 #[.nestMembers #[627, 629, 369]] #[{ accessFlags := 0, nameIndex := 9, descriptorIndex := 10, attributes := #[] }, { accessFlags := 8, nameIndex := 261, descriptorIndex := 262, attributes := #[] }, { accessFlags := 9, nameIndex := 117, descriptorIndex := 122, attributes := #[] }, { accessFlags := 9, nameIndex := 117, descriptorIndex := 118, attributes := #[] }] 48 6 #[] #[{ accessFlags := 26, nameIndex := 61, descriptorIndex := 62, attributes := #[] }, { accessFlags := 26, nameIndex := 65, descriptorIndex := 62, attributes := #[] }, { accessFlags := 24, nameIndex := 430, descriptorIndex := 62, attributes := #[] }, { accessFlags := 4120, nameIndex := 46, descriptorIndex := 47, attributes := #[] }])
  fields := #[{ name := "HI_BYTE_SHIFT", type := .int, accessFlags := 26, slot := 0, constantValue := 0 }, { name := "LO_BYTE_SHIFT", type := .int, accessFlags := 26, slot := 1, constantValue := 0 }, { name := "MAX_LENGTH", type := .int, accessFlags := 24, slot := 2, constantValue := 0 }, { name := "$assertionsDisabled", type := .boolean, accessFlags := 4120, slot := 3, constantValue := 0 }]
  methods := #[k8m0, k8m1, k8m2, k8m3]
  instanceTypes := #[]
  staticTypes := #[.int, .int, .int, .boolean]
  resolved := Array.replicate 635 none
  statics := none }

def pool9 : Array CpInfo := pool [(1, .methodref 2 3), (0, .class_ 4), (0, .nameAndType 5 6), (0, u "java/lang/Object"), (0, u "<init>"), (0, u "()V"), (0, .class_ 8), (0, u "java/lang/Record")] 13

def k9c0 : Code := { maxStack := 1, maxLocals := 1, code := jdk_30_method_1_code, exceptionTable := #[], attributes := #[] }
def k9m0 : Method := { name := "<init>", desc := "()V", sig := { parameters := [], returnType := none }, accessFlags := 4, code := some k9c0 }
/-- java/lang/Record -/
def k9 : Class := { plain "java/lang/Record" (some 0) with
  accessFlags := 1057
  interfaces := #[]
  cf := some (fileOf pool9 7 #[] #[{ accessFlags := 4, nameIndex := 5, descriptorIndex := 6, attributes := #[] }] 1057 2 #[] #[])
  fields := #[]
  methods := #[k9m0]
  instanceTypes := #[]
  staticTypes := #[]
  resolved := Array.replicate 22 none
  statics := none }

def pool10 : Array CpInfo := pool [(1, .methodref 2 3), (0, .class_ 4), (0, .nameAndType 5 6), (0, u "java/lang/Record"), (0, u "<init>"), (0, u "()V"), (0, .fieldref 8 9), (0, .class_ 10), (0, .nameAndType 11 12), (0, u "com/example/zenodotus/zenodotus/engine/FamilyStatus"), (0, u "family"), (0, u "Ljava/lang/String;"), (0, .fieldref 8 14), (0, .nameAndType 15 16), (0, u "storeFiles"), (0, u "I"), (0, .fieldref 8 18), (0, .nameAndType 19 20), (0, u "storeCells"), (0, u "J"), (0, .fieldref 8 22), (0, .nameAndType 23 20), (0, u "memoryCells"), (0, .methodref 8 25), (0, .nameAndType 5 26), (0, u "(Ljava/lang/String;IJJ)V"), (15, u "plus"), (0, u "(Lcom/example/zenodotus/zenodotus/engine/FamilyStatus;)Lcom/example/zenodotus/zenodotus/engine/FamilyStatus;"), (0, u "()Ljava/lang/String;"), (0, u "()I"), (1, u "()J")] 23

def k10c0 : Code := { maxStack := 3, maxLocals := 7, code := prog_9_method_1_code, exceptionTable := #[], attributes := #[] }
def k10m0 : Method := { name := "<init>", desc := "(Ljava/lang/String;IJJ)V", sig := { parameters := [(.object "java/lang/String"), .int, .long, .long], returnType := none }, accessFlags := 1, code := some k10c0 }
def k10c1 : Code := { maxStack := 10, maxLocals := 2, code := prog_9_method_2_code, exceptionTable := #[], attributes := #[] }
def k10m1 : Method := { name := "plus", desc := "(Lcom/example/zenodotus/zenodotus/engine/FamilyStatus;)Lcom/example/zenodotus/zenodotus/engine/FamilyStatus;", sig := { parameters := [(.object "com/example/zenodotus/zenodotus/engine/FamilyStatus")], returnType := some (.object "com/example/zenodotus/zenodotus/engine/FamilyStatus") }, accessFlags := 1, code := some k10c1 }
def k10c2 : Code := { maxStack := 1, maxLocals := 1, code := prog_9_method_6_code, exceptionTable := #[], attributes := #[] }
def k10m2 : Method := { name := "family", desc := "()Ljava/lang/String;", sig := { parameters := [], returnType := some (.object "java/lang/String") }, accessFlags := 1, code := some k10c2 }
def k10c3 : Code := { maxStack := 1, maxLocals := 1, code := prog_9_method_7_code, exceptionTable := #[], attributes := #[] }
def k10m3 : Method := { name := "storeFiles", desc := "()I", sig := { parameters := [], returnType := some .int }, accessFlags := 1, code := some k10c3 }
def k10c4 : Code := { maxStack := 2, maxLocals := 1, code := prog_9_method_8_code, exceptionTable := #[], attributes := #[] }
def k10m4 : Method := { name := "storeCells", desc := "()J", sig := { parameters := [], returnType := some .long }, accessFlags := 1, code := some k10c4 }
def k10c5 : Code := { maxStack := 2, maxLocals := 1, code := prog_9_method_9_code, exceptionTable := #[], attributes := #[] }
def k10m5 : Method := { name := "memoryCells", desc := "()J", sig := { parameters := [], returnType := some .long }, accessFlags := 1, code := some k10c5 }
/-- com/example/zenodotus/zenodotus/engine/FamilyStatus -/
def k10 : Class := { plain "com/example/zenodotus/zenodotus/engine/FamilyStatus" (some 9) with
  accessFlags := 49
  interfaces := #[]
  cf := some (fileOf pool10 8 #[] #[{ accessFlags := 1, nameIndex := 5, descriptorIndex := 26, attributes := #[] }, { accessFlags := 1, nameIndex := 42, descriptorIndex := 43, attributes := #[] }, { accessFlags := 1, nameIndex := 11, descriptorIndex := 44, attributes := #[] }, { accessFlags := 1, nameIndex := 15, descriptorIndex := 45, attributes := #[] }, { accessFlags := 1, nameIndex := 19, descriptorIndex := 47, attributes := #[] }, { accessFlags := 1, nameIndex := 23, descriptorIndex := 47, attributes := #[] }] 49 2 #[] #[{ accessFlags := 18, nameIndex := 11, descriptorIndex := 12, attributes := #[] }, { accessFlags := 18, nameIndex := 15, descriptorIndex := 16, attributes := #[] }, { accessFlags := 18, nameIndex := 19, descriptorIndex := 20, attributes := #[] }, { accessFlags := 18, nameIndex := 23, descriptorIndex := 20, attributes := #[] }])
  fields := #[{ name := "family", type := (.object "java/lang/String"), accessFlags := 18, slot := 0, constantValue := 0 }, { name := "storeFiles", type := .int, accessFlags := 18, slot := 1, constantValue := 0 }, { name := "storeCells", type := .long, accessFlags := 18, slot := 2, constantValue := 0 }, { name := "memoryCells", type := .long, accessFlags := 18, slot := 3, constantValue := 0 }]
  methods := #[k10m0, k10m1, k10m2, k10m3, k10m4, k10m5]
  instanceTypes := #[(.object "java/lang/String"), .int, .long, .long]
  staticTypes := #[]
  resolved := Array.replicate 71 none
  statics := none }

def pool11 : Array CpInfo := pool [(4, .class_ 6), (1, u "java/lang/Object"), (0, u "<init>"), (0, u "()V"), (5, .class_ 16), (1, u "java/lang/StringLatin1"), (104, u "$assertionsDisabled"), (0, u "Z"), (98, .class_ 223), (1, u "java/lang/StringLatin1$LinesSpliterator"), (166, .class_ 391), (0, u "java/lang/StringLatin1$CharsSpliterator")] 3

def k11m0 : Method := { name := "<init>", desc := "()V", sig := { parameters := [], returnType := none }, accessFlags := 0, code := none }
/-- java/lang/StringLatin1 -/
def k11 : Class := { plain "java/lang/StringLatin1" (some 0) with
  accessFlags := 48
  interfaces := #[]
  cf := some (fileOf pool11 14 #[.nestMembers #[390, 221]] #[{ accessFlags := 0, nameIndex := 7, descriptorIndex := 8, attributes := #[] }] 48 4 #[] #[{ accessFlags := 4120, nameIndex := 121, descriptorIndex := 122, attributes := #[] }])
  fields := #[{ name := "$assertionsDisabled", type := .boolean, accessFlags := 4120, slot := 0, constantValue := 0 }]
  methods := #[k11m0]
  instanceTypes := #[]
  staticTypes := #[.boolean]
  resolved := Array.replicate 395 none
  statics := none }

def pool12 : Array CpInfo := pool [(2, .class_ 4), (1, u "java/lang/Object"), (0, u "<init>"), (0, u "()V"), (17, .class_ 26), (1, u "jdk/internal/util/Preconditions"), (28, .class_ 56), (0, u "jdk/internal/util/Preconditions$4"), (57, .class_ 115), (0, u "jdk/internal/util/Preconditions$1"), (7, u "SIOOBE_FORMATTER"), (0, u "Ljava/util/function/BiFunction;"), (0, .class_ 126), (0, u "jdk/internal/util/Preconditions$2"), (3, u "AIOOBE_FORMATTER"), (0, .class_ 132), (0, u "jdk/internal/util/Preconditions$3"), (3, u "IOOBE_FORMATTER")] 57

def k12m0 : Method := { name := "<init>", desc := "()V", sig := { parameters := [], returnType := none }, accessFlags := 1, code := none }
/-- jdk/internal/util/Preconditions -/
def k12 : Class := { plain "jdk/internal/util/Preconditions" (some 0) with
  accessFlags := 33
  interfaces := #[]
  cf := some (fileOf pool12 24 #[.nestMembers #[55, 131, 125, 114]] #[{ accessFlags := 1, nameIndex := 5, descriptorIndex := 6, attributes := #[] }] 33 2 #[] #[{ accessFlags := 25, nameIndex := 123, descriptorIndex := 124, attributes := #[] }, { accessFlags := 25, nameIndex := 130, descriptorIndex := 124, attributes := #[] }, { accessFlags := 25, nameIndex := 136, descriptorIndex := 124, attributes := #[] }])
  fields := #[{ name := "SIOOBE_FORMATTER", type := (.object "java/util/function/BiFunction"), accessFlags := 25, slot := 0, constantValue := 0 }, { name := "AIOOBE_FORMATTER", type := (.object "java/util/function/BiFunction"), accessFlags := 25, slot := 1, constantValue := 0 }, { name := "IOOBE_FORMATTER", type := (.object "java/util/function/BiFunction"), accessFlags := 25, slot := 2, constantValue := 0 }]
  methods := #[k12m0]
  instanceTypes := #[]
  staticTypes := #[(.object "java/util/function/BiFunction"), (.object "java/util/function/BiFunction"), (.object "java/util/function/BiFunction")]
  resolved := Array.replicate 194 none
  statics := some 1 }

def pool13 : Array CpInfo := pool [(9, u "<init>"), (6, .class_ 18), (1, u "java/lang/Object"), (0, u "()V"), (1, .class_ 23), (1, u "jdk/internal/util/ArraysSupport"), (0, u "LOG2_ARRAY_LONG_INDEX_SCALE"), (0, u "I"), (2, u "U"), (0, u "Ljdk/internal/misc/Unsafe;"), (8, u "BIG_ENDIAN"), (0, u "Z"), (8, u "LOG2_BYTE_BIT_SIZE"), (4, u "LOG2_ARRAY_INT_INDEX_SCALE"), (54, u "JLA"), (0, u "Ljdk/internal/access/JavaLangAccess;"), (11, u "LOG2_ARRAY_BOOLEAN_INDEX_SCALE"), (9, u "LOG2_ARRAY_BYTE_INDEX_SCALE"), (5, u "LOG2_ARRAY_CHAR_INDEX_SCALE"), (5, u "LOG2_ARRAY_SHORT_INDEX_SCALE"), (18, u "LOG2_ARRAY_FLOAT_INDEX_SCALE"), (24, u "LOG2_ARRAY_DOUBLE_INDEX_SCALE"), (89, u "T_BOOLEAN"), (2, u "T_CHAR"), (1, u "T_FLOAT"), (1, u "T_DOUBLE"), (1, u "T_BYTE"), (1, u "T_SHORT"), (1, u "T_INT"), (1, u "T_LONG"), (1, u "SOFT_MAX_ARRAY_LENGTH")] 83

def k13m0 : Method := { name := "<init>", desc := "()V", sig := { parameters := [], returnType := none }, accessFlags := 2, code := none }
/-- jdk/internal/util/ArraysSupport -/
def k13 : Class := { plain "jdk/internal/util/ArraysSupport" (some 0) with
  accessFlags := 33
  interfaces := #[]
  cf := some (fileOf pool13 21 #[] #[{ accessFlags := 2, nameIndex := 9, descriptorIndex := 19, attributes := #[] }] 33 16 #[] #[{ accessFlags := 24, nameIndex := 28, descriptorIndex := 29, attributes := #[] }, { accessFlags := 26, nameIndex := 38, descriptorIndex := 39, attributes := #[] }, { accessFlags := 25, nameIndex := 121, descriptorIndex := 25, attributes := #[] }, { accessFlags := 25, nameIndex := 131, descriptorIndex := 25, attributes := #[] }, { accessFlags := 25, nameIndex := 137, descriptorIndex := 25, attributes := #[] }, { accessFlags := 25, nameIndex := 143, descriptorIndex := 25, attributes := #[] }, { accessFlags := 25, nameIndex := 53, descriptorIndex := 25, attributes := #[] }, { accessFlags := 25, nameIndex := 24, descriptorIndex := 25, attributes := #[] }, { accessFlags := 25, nameIndex := 162, descriptorIndex := 25, attributes := #[] }, { accessFlags := 25, nameIndex := 187, descriptorIndex := 25, attributes := #[] }, { accessFlags := 26, nameIndex := 48, descriptorIndex := 25, attributes := #[] }, { accessFlags := 25, nameIndex := 277, descriptorIndex := 25, attributes := #[] }, { accessFlags := 25, nameIndex := 280, descriptorIndex := 25, attributes := #[] }, { accessFlags := 25, nameIndex := 282, descriptorIndex := 25, attributes := #[] }, { accessFlags := 25, nameIndex := 284, descriptorIndex := 25, attributes := #[] }, { accessFlags := 25, nameIndex := 286, descriptorIndex := 25, attributes := #[] }, { accessFlags := 25, nameIndex := 288, descriptorIndex := 25, attributes := #[] }, { accessFlags := 25, nameIndex := 290, descriptorIndex := 25, attributes := #[] }, { accessFlags := 25, nameIndex := 292, descriptorIndex := 25, attributes := #[] }, { accessFlags := 26, nameIndex := 108, descriptorIndex := 109, attributes := #[] }, { accessFlags := 25, nameIndex := 294, descriptorIndex := 25, attributes := #[] }])
  fields := #[{ name := "U", type := (.object "jdk/internal/misc/Unsafe"), accessFlags := 24, slot := 0, constantValue := 0 }, { name := "BIG_ENDIAN", type := .boolean, accessFlags := 26, slot := 1, constantValue := 0 }, { name := "LOG2_ARRAY_BOOLEAN_INDEX_SCALE", type := .int, accessFlags := 25, slot := 2, constantValue := 0 }, { name := "LOG2_ARRAY_BYTE_INDEX_SCALE", type := .int, accessFlags := 25, slot := 3, constantValue := 0 }, { name := "LOG2_ARRAY_CHAR_INDEX_SCALE", type := .int, accessFlags := 25, slot := 4, constantValue := 0 }, { name := "LOG2_ARRAY_SHORT_INDEX_SCALE", type := .int, accessFlags := 25, slot := 5, constantValue := 0 }, { name := "LOG2_ARRAY_INT_INDEX_SCALE", type := .int, accessFlags := 25, slot := 6, constantValue := 0 }, { name := "LOG2_ARRAY_LONG_INDEX_SCALE", type := .int, accessFlags := 25, slot := 7, constantValue := 0 }, { name := "LOG2_ARRAY_FLOAT_INDEX_SCALE", type := .int, accessFlags := 25, slot := 8, constantValue := 0 }, { name := "LOG2_ARRAY_DOUBLE_INDEX_SCALE", type := .int, accessFlags := 25, slot := 9, constantValue := 0 }, { name := "LOG2_BYTE_BIT_SIZE", type := .int, accessFlags := 26, slot := 10, constantValue := 0 }, { name := "T_BOOLEAN", type := .int, accessFlags := 25, slot := 11, constantValue := 0 }, { name := "T_CHAR", type := .int, accessFlags := 25, slot := 12, constantValue := 0 }, { name := "T_FLOAT", type := .int, accessFlags := 25, slot := 13, constantValue := 0 }, { name := "T_DOUBLE", type := .int, accessFlags := 25, slot := 14, constantValue := 0 }, { name := "T_BYTE", type := .int, accessFlags := 25, slot := 15, constantValue := 0 }, { name := "T_SHORT", type := .int, accessFlags := 25, slot := 16, constantValue := 0 }, { name := "T_INT", type := .int, accessFlags := 25, slot := 17, constantValue := 0 }, { name := "T_LONG", type := .int, accessFlags := 25, slot := 18, constantValue := 0 }, { name := "JLA", type := (.object "jdk/internal/access/JavaLangAccess"), accessFlags := 26, slot := 19, constantValue := 0 }, { name := "SOFT_MAX_ARRAY_LENGTH", type := .int, accessFlags := 25, slot := 20, constantValue := 0 }]
  methods := #[k13m0]
  instanceTypes := #[]
  staticTypes := #[(.object "jdk/internal/misc/Unsafe"), .boolean, .int, .int, .int, .int, .int, .int, .int, .int, .int, .int, .int, .int, .int, .int, .int, .int, .int, (.object "jdk/internal/access/JavaLangAccess"), .int]
  resolved := Array.replicate 378 none
  statics := none }

def pool14 : Array CpInfo := pool [(1, u "java/lang/Cloneable"), (0, .class_ 1), (0, u "java/lang/Object"), (0, .class_ 3)] 3

/-- java/lang/Cloneable -/
def k14 : Class := { plain "java/lang/Cloneable" (some 0) with
  accessFlags := 1537
  interfaces := #[]
  cf := some (fileOf pool14 2 #[] #[] 1537 4 #[] #[])
  fields := #[]
  methods := #[]
  instanceTypes := #[]
  staticTypes := #[]
  resolved := Array.replicate 8 none
  statics := none }

/-- the primitive byte -/
def k15 : Class := { plain "byte" none with kind := .primitive 'B', accessFlags := 0x411 }
/-- [B -/
def k16 : Class := { plain "[B" (some 0) with kind := .array 15 .byte, interfaces := #[14, 2], accessFlags := 1041 }

/-- the primitive char -/
def k17 : Class := { plain "char" none with kind := .primitive 'C', accessFlags := 0x411 }
/-- [C -/
def k18 : Class := { plain "[C" (some 0) with kind := .array 17 .char, interfaces := #[14, 2], accessFlags := 1041 }

/-- the primitive int -/
def k19 : Class := { plain "int" none with kind := .primitive 'I', accessFlags := 0x411 }
/-- [I -/
def k20 : Class := { plain "[I" (some 0) with kind := .array 19 .int, interfaces := #[14, 2], accessFlags := 1041 }

def heap : Heap := #[{ cls := 7, slots := #[.long 0, .int 1, .null, .int 0, .null, .int 0, .int 0], vm := .statics 7 },
  { cls := 12, slots := #[.null, .null, .null], vm := .statics 12 }]
def classes : Array Class := #[k0, k1, k2, k3, k4, k5, k6, k7, k8, k9, k10, k11, k12, k13, k14, k15, k16, k17, k18, k19, k20]
def interned : List (Array UInt16 × Addr) := []
def slotsUsed : Nat := 10
def theMethod : MethodId := ⟨1, 1⟩
def args0 : Array Value := #[.int 7, .int 1, .long 3, .long 1, .long 2, .long 4]
def aboutOver (below : List Frame) : State where
  vm := { classes := classes, interned := interned.toArray }
  heap := heap
  slotsUsed := slotsUsed
  threads := #[{ frames := .invoking theMethod args0 :: below }]
def below0 : List Frame := [.native { method := ⟨0, 0⟩, args := #[] }]
def about1 : State := aboutOver below0
def p0 : Program := .bare "" "" ""
def e0 : Env := launch0.env 0 0 0
theorem w_frames : about1.frames = Frame.invoking theMethod args0 :: below0 := rfl
set_option maxRecDepth 65536 in
theorem w_args : argsFit about1.vm theMethod args0 = true := by decide +kernel
set_option maxRecDepth 65536 in
theorem w_heap : heapFits about1 = true := by decide +kernel
set_option maxRecDepth 65536 in
theorem w_runnable : about1.curStatus? = some .runnable := by decide +kernel
set_option maxRecDepth 65536 in
theorem w_alone : about1.alone = true := by decide +kernel
set_option maxRecDepth 65536 in
theorem w_named : about1.methodNamed? x = some theMethod := by decide +kernel
set_option maxRecDepth 65536 in
theorem w_hears : about1.hears theMethod below0 = true := by decide +kernel
set_option maxRecDepth 65536 in
theorem w_ripe : about1.ripe theMethod args0 below0 = true := by decide +kernel
theorem w_running : about1.status = .running := rfl
set_option maxRecDepth 65536 in
theorem w_room : about1.hasRoom e0.platform room_1 = true :=
  launch0.hasRoom_least _ room_1 (by decide +kernel) (by decide +kernel) (by decide +kernel) (by decide +kernel) (by decide +kernel) (by decide +kernel)
theorem allAtoms_all (ts : List Jvm.Cond) (a : Array Jvm.Value) (st : Jvm.State) : (allAtoms ts).before a st = ts.all (fun c => c.before a st) := by
  induction ts with
  | nil => rfl
  | cons c t ih =>
    show (Jvm.Cond.and c (allAtoms t)).before a st = _
    rw [Jvm.Cond.before_and, ih, List.all_cons]
def words1 : List Jvm.Cond := Jvm.Cond.code x code maxLocals ret :: tables_1
/-- a 'code' word, met by the world's own term for the bytes: nothing is compared byte by byte -/
theorem code_word {y : MethodName} {bytes : ByteArray} {mx : Nat} {rt : Option FieldType} {a : Array Value} {s : State} {m : MethodId} {meth : Method} {c : Code} (h1 : s.methodNamed? y = some m) (h2 : s.vm.method? m = some meth) (h3 : meth.code = some c) (h4 : c.code = bytes)
    (h5 : (c.maxLocals == mx && c.exceptionTable.isEmpty && decide (c.maxStack ≤ mostOperands) && decide (meth.sig.returnType = rt) && !meth.locks && decide (parseMethodDescriptor y.desc = some meth.sig)) = true) : (Jvm.Cond.code y bytes mx rt).before a s = true := by
  simp only [Bool.and_eq_true, beq_iff_eq, Bool.not_eq_true', decide_eq_true_eq] at h5
  obtain ⟨⟨⟨⟨⟨g1, g2⟩, g3⟩, g4⟩, g5⟩, g6⟩ := h5
  simp [Cond.before, Cond.holds, Cond.value, h1, h2, h3, h4, g1, g2, g3, g4, g5, g6]
def isCode : Jvm.Cond → Bool
  | .code _ _ _ _ => true
  | _ => false
theorem all_split {L : List Jvm.Cond} {P : Jvm.Cond → Bool} (h1 : L.all (fun c => isCode c || P c) = true) (h2 : ∀ c ∈ L.filter isCode, P c = true) : L.all P = true := by
  refine List.all_eq_true.mpr fun c hc => ?_
  have h := List.all_eq_true.mp h1 c hc
  rcases Bool.eq_false_or_eq_true (isCode c) with hi | hi
  · exact h2 c (List.mem_filter.mpr ⟨hc, hi⟩)
  · simpa [hi] using h
set_option maxRecDepth 65536 in
theorem w_c0 : (Jvm.Cond.code x code maxLocals ret).before args0 about1 = true := code_word (m := ⟨1, 1⟩) (meth := k1m1) (c := k1c1) (by decide +kernel) rfl rfl rfl (by decide +kernel)
set_option maxRecDepth 65536 in
theorem w_c1 : (Jvm.Cond.code ({ cls := "java/lang/String", name := "<init>", desc := "([C)V" } : Jvm.MethodName) jdk_42_method_3_code (2 : Nat) (Option.none : Option Jvm.ClassFile.FieldType)).before args0 about1 = true := code_word (m := ⟨7, 1⟩) (meth := k7m1) (c := k7c1) (by decide +kernel) rfl rfl rfl (by decide +kernel)
set_option maxRecDepth 65536 in
theorem w_c2 : (Jvm.Cond.code ({ cls := "java/lang/String", name := "<init>", desc := "([CIILjava/lang/Void;)V" } : Jvm.MethodName) jdk_42_method_149_code (6 : Nat) (Option.none : Option Jvm.ClassFile.FieldType)).before args0 about1 = true := code_word (m := ⟨7, 3⟩) (meth := k7m3) (c := k7c3) (by decide +kernel) rfl rfl rfl (by decide +kernel)
set_option maxRecDepth 65536 in
theorem w_c3 : (Jvm.Cond.code ({ cls := "java/lang/Object", name := "<init>", desc := "()V" } : Jvm.MethodName) object_method_1_code (1 : Nat) (Option.none : Option Jvm.ClassFile.FieldType)).before args0 about1 = true := code_word (m := ⟨0, 0⟩) (meth := k0m0) (c := k0c0) (by decide +kernel) rfl rfl rfl (by decide +kernel)
set_option maxRecDepth 65536 in
theorem w_c4 : (Jvm.Cond.code ({ cls := "java/lang/StringUTF16", name := "compress", desc := "([CII)[B" } : Jvm.MethodName) jdk_52_method_16_code (6 : Nat) (Option.some (Jvm.ClassFile.FieldType.array Jvm.ClassFile.FieldType.byte))).before args0 about1 = true := code_word (m := ⟨8, 2⟩) (meth := k8m2) (c := k8c2) (by decide +kernel) rfl rfl rfl (by decide +kernel)
set_option maxRecDepth 65536 in
theorem w_c5 : (Jvm.Cond.code ({ cls := "java/lang/StringUTF16", name := "compress", desc := "([CI[BII)I" } : Jvm.MethodName) jdk_52_method_21_code (7 : Nat) (Option.some Jvm.ClassFile.FieldType.int)).before args0 about1 = true := code_word (m := ⟨8, 3⟩) (meth := k8m3) (c := k8c3) (by decide +kernel) rfl rfl rfl (by decide +kernel)
set_option maxRecDepth 65536 in
theorem w_c6 : (Jvm.Cond.code ({ cls := "java/lang/StringUTF16", name := "coderFromArrayLen", desc := "([BI)B" } : Jvm.MethodName) jdk_52_method_15_code (2 : Nat) (Option.some Jvm.ClassFile.FieldType.byte)).before args0 about1 = true := code_word (m := ⟨8, 1⟩) (meth := k8m1) (c := k8c1) (by decide +kernel) rfl rfl rfl (by decide +kernel)
set_option maxRecDepth 65536 in
theorem w_c7 : (Jvm.Cond.code ({ cls := "com/example/zenodotus/zenodotus/engine/FamilyStatus", name := "<init>", desc := "(Ljava/lang/String;IJJ)V" } : Jvm.MethodName) prog_9_method_1_code (7 : Nat) (Option.none : Option Jvm.ClassFile.FieldType)).before args0 about1 = true := code_word (m := ⟨10, 0⟩) (meth := k10m0) (c := k10c0) (by decide +kernel) rfl rfl rfl (by decide +kernel)
set_option maxRecDepth 65536 in
theorem w_c8 : (Jvm.Cond.code ({ cls := "java/lang/Record", name := "<init>", desc := "()V" } : Jvm.MethodName) jdk_30_method_1_code (1 : Nat) (Option.none : Option Jvm.ClassFile.FieldType)).before args0 about1 = true := code_word (m := ⟨9, 0⟩) (meth := k9m0) (c := k9c0) (by decide +kernel) rfl rfl rfl (by decide +kernel)
set_option maxRecDepth 65536 in
theorem w_c9 : (Jvm.Cond.code ({ cls := "com/example/zenodotus/zenodotus/engine/FamilyStatus", name := "plus", desc := "(Lcom/example/zenodotus/zenodotus/engine/FamilyStatus;)Lcom/example/zenodotus/zenodotus/engine/FamilyStatus;" } : Jvm.MethodName) prog_9_method_2_code (2 : Nat) (Option.some (Jvm.ClassFile.FieldType.object "com/example/zenodotus/zenodotus/engine/FamilyStatus"))).before args0 about1 = true := code_word (m := ⟨10, 1⟩) (meth := k10m1) (c := k10c1) (by decide +kernel) rfl rfl rfl (by decide +kernel)
set_option maxRecDepth 65536 in
theorem w_c10 : (Jvm.Cond.code ({ cls := "com/example/zenodotus/zenodotus/engine/FamilyStatus", name := "family", desc := "()Ljava/lang/String;" } : Jvm.MethodName) prog_9_method_6_code (1 : Nat) (Option.some (Jvm.ClassFile.FieldType.object "java/lang/String"))).before args0 about1 = true := code_word (m := ⟨10, 2⟩) (meth := k10m2) (c := k10c2) (by decide +kernel) rfl rfl rfl (by decide +kernel)
set_option maxRecDepth 65536 in
theorem w_c11 : (Jvm.Cond.code ({ cls := "java/lang/String", name := "equals", desc := "(Ljava/lang/Object;)Z" } : Jvm.MethodName) jdk_42_method_66_code (3 : Nat) (Option.some Jvm.ClassFile.FieldType.boolean)).before args0 about1 = true := code_word (m := ⟨7, 2⟩) (meth := k7m2) (c := k7c2) (by decide +kernel) rfl rfl rfl (by decide +kernel)
set_option maxRecDepth 65536 in
theorem w_c12 : (Jvm.Cond.code ({ cls := "com/example/zenodotus/zenodotus/engine/FamilyStatus", name := "storeFiles", desc := "()I" } : Jvm.MethodName) prog_9_method_7_code (1 : Nat) (Option.some Jvm.ClassFile.FieldType.int)).before args0 about1 = true := code_word (m := ⟨10, 3⟩) (meth := k10m3) (c := k10c3) (by decide +kernel) rfl rfl rfl (by decide +kernel)
set_option maxRecDepth 65536 in
theorem w_c13 : (Jvm.Cond.code ({ cls := "com/example/zenodotus/zenodotus/engine/FamilyStatus", name := "storeCells", desc := "()J" } : Jvm.MethodName) prog_9_method_8_code (1 : Nat) (Option.some Jvm.ClassFile.FieldType.long)).before args0 about1 = true := code_word (m := ⟨10, 4⟩) (meth := k10m4) (c := k10c4) (by decide +kernel) rfl rfl rfl (by decide +kernel)
set_option maxRecDepth 65536 in
theorem w_c14 : (Jvm.Cond.code ({ cls := "com/example/zenodotus/zenodotus/engine/FamilyStatus", name := "memoryCells", desc := "()J" } : Jvm.MethodName) prog_9_method_9_code (1 : Nat) (Option.some Jvm.ClassFile.FieldType.long)).before args0 about1 = true := code_word (m := ⟨10, 5⟩) (meth := k10m5) (c := k10c5) (by decide +kernel) rfl rfl rfl (by decide +kernel)
def codes1 : List Jvm.Cond := [Jvm.Cond.code x code maxLocals ret, Jvm.Cond.code ({ cls := "java/lang/String", name := "<init>", desc := "([C)V" } : Jvm.MethodName) jdk_42_method_3_code (2 : Nat) (Option.none : Option Jvm.ClassFile.FieldType), Jvm.Cond.code ({ cls := "java/lang/String", name := "<init>", desc := "([CIILjava/lang/Void;)V" } : Jvm.MethodName) jdk_42_method_149_code (6 : Nat) (Option.none : Option Jvm.ClassFile.FieldType), Jvm.Cond.code ({ cls := "java/lang/Object", name := "<init>", desc := "()V" } : Jvm.MethodName) object_method_1_code (1 : Nat) (Option.none : Option Jvm.ClassFile.FieldType), Jvm.Cond.code ({ cls := "java/lang/StringUTF16", name := "compress", desc := "([CII)[B" } : Jvm.MethodName) jdk_52_method_16_code (6 : Nat) (Option.some (Jvm.ClassFile.FieldType.array Jvm.ClassFile.FieldType.byte)), Jvm.Cond.code ({ cls := "java/lang/StringUTF16", name := "compress", desc := "([CI[BII)I" } : Jvm.MethodName) jdk_52_method_21_code (7 : Nat) (Option.some Jvm.ClassFile.FieldType.int), Jvm.Cond.code ({ cls := "java/lang/StringUTF16", name := "coderFromArrayLen", desc := "([BI)B" } : Jvm.MethodName) jdk_52_method_15_code (2 : Nat) (Option.some Jvm.ClassFile.FieldType.byte), Jvm.Cond.code ({ cls := "com/example/zenodotus/zenodotus/engine/FamilyStatus", name := "<init>", desc := "(Ljava/lang/String;IJJ)V" } : Jvm.MethodName) prog_9_method_1_code (7 : Nat) (Option.none : Option Jvm.ClassFile.FieldType), Jvm.Cond.code ({ cls := "java/lang/Record", name := "<init>", desc := "()V" } : Jvm.MethodName) jdk_30_method_1_code (1 : Nat) (Option.none : Option Jvm.ClassFile.FieldType), Jvm.Cond.code ({ cls := "com/example/zenodotus/zenodotus/engine/FamilyStatus", name := "plus", desc := "(Lcom/example/zenodotus/zenodotus/engine/FamilyStatus;)Lcom/example/zenodotus/zenodotus/engine/FamilyStatus;" } : Jvm.MethodName) prog_9_method_2_code (2 : Nat) (Option.some (Jvm.ClassFile.FieldType.object "com/example/zenodotus/zenodotus/engine/FamilyStatus")), Jvm.Cond.code ({ cls := "com/example/zenodotus/zenodotus/engine/FamilyStatus", name := "family", desc := "()Ljava/lang/String;" } : Jvm.MethodName) prog_9_method_6_code (1 : Nat) (Option.some (Jvm.ClassFile.FieldType.object "java/lang/String")), Jvm.Cond.code ({ cls := "java/lang/String", name := "equals", desc := "(Ljava/lang/Object;)Z" } : Jvm.MethodName) jdk_42_method_66_code (3 : Nat) (Option.some Jvm.ClassFile.FieldType.boolean), Jvm.Cond.code ({ cls := "com/example/zenodotus/zenodotus/engine/FamilyStatus", name := "storeFiles", desc := "()I" } : Jvm.MethodName) prog_9_method_7_code (1 : Nat) (Option.some Jvm.ClassFile.FieldType.int), Jvm.Cond.code ({ cls := "com/example/zenodotus/zenodotus/engine/FamilyStatus", name := "storeCells", desc := "()J" } : Jvm.MethodName) prog_9_method_8_code (1 : Nat) (Option.some Jvm.ClassFile.FieldType.long), Jvm.Cond.code ({ cls := "com/example/zenodotus/zenodotus/engine/FamilyStatus", name := "memoryCells", desc := "()J" } : Jvm.MethodName) prog_9_method_9_code (1 : Nat) (Option.some Jvm.ClassFile.FieldType.long)]
set_option maxRecDepth 65536 in
theorem codes_eq : words1.filter isCode = codes1 := rfl
theorem w_codes : ∀ c ∈ words1.filter isCode, c.before args0 about1 = true := by
  rw [codes_eq]
  intro c hc
  simp only [codes1, List.mem_cons, List.not_mem_nil, or_false] at hc
  rcases hc with rfl | rfl | rfl | rfl | rfl | rfl | rfl | rfl | rfl | rfl | rfl | rfl | rfl | rfl | rfl
  · exact w_c0
  · exact w_c1
  · exact w_c2
  · exact w_c3
  · exact w_c4
  · exact w_c5
  · exact w_c6
  · exact w_c7
  · exact w_c8
  · exact w_c9
  · exact w_c10
  · exact w_c11
  · exact w_c12
  · exact w_c13
  · exact w_c14
set_option maxRecDepth 65536 in
theorem w_t1 : (words1.take 24).all (fun c => isCode c || c.before args0 about1) = true := by decide +kernel
set_option maxRecDepth 65536 in
theorem w_t2 : ((words1.drop 24).take 24).all (fun c => isCode c || c.before args0 about1) = true := by decide +kernel
set_option maxRecDepth 65536 in
theorem w_t3 : (((words1.drop 24).drop 24).take 24).all (fun c => isCode c || c.before args0 about1) = true := by decide +kernel
set_option maxRecDepth 65536 in
theorem w_t4 : (((words1.drop 24).drop 24).drop 24).all (fun c => isCode c || c.before args0 about1) = true := by decide +kernel
theorem w_tables : (allAtoms (Jvm.Cond.code x code maxLocals ret :: tables_1)).before args0 about1 = true := by
  rw [allAtoms_all]
  show words1.all (fun c => c.before args0 about1) = true
  refine all_split ?_ w_codes
  rw [← List.take_append_drop 24 words1, List.all_append, w_t1, ← List.take_append_drop 24 (words1.drop 24), List.all_append, w_t2, ← List.take_append_drop 24 ((words1.drop 24).drop 24), List.all_append, w_t3, w_t4]
  rfl
set_option maxRecDepth 65536 in
theorem w_rest : rest_1_c.before args0 about1 = true := by decide +kernel
set_option maxRecDepth 65536 in
theorem w_case : (Jvm.Cond.and given_1 narrow_1).before args0 about1 = true := by decide +kernel
theorem w_applies : (headSpec (Jvm.Cond.code x code maxLocals ret :: tables_1) room_1).applies x e0.platform about1 = true :=
  (Spec.applies_iff w_frames).mpr ⟨w_running, w_runnable, w_alone, w_named, w_hears, w_ripe, w_room, w_tables⟩
theorem atStart : AtStart classFile x code maxLocals ret World_1 tables_1 room_1 Calls_1 rest_1 Pre_1 launch0 p0 e0 about1 theMethod args0 below0 :=
  ⟨lists_1, trivial, launch0.admits_env _ _ _, launch0.least_env, fairChoices_fair.cas, fairChoices_fair.clock, w_frames, w_args, w_heap, w_applies, trivial, w_rest, w_case⟩
end start1
theorem witness_1 : WitnessClaimed_1 := ⟨start1.p0, start1.e0, start1.about1, start1.theMethod, start1.args0, start1.below0, start1.atStart⟩
end Jvm.Pilot.@@N@@
