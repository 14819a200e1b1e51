import JvmDerived
import JvmDerived.Pilot.@@N@@Statement
import JvmDerived.Pilot.@@N@@Code
set_option linter.unusedVariables false
set_option linter.unusedSimpArgs false
namespace Jvm.Pilot.@@N@@
open Jvm Jvm.ClassFile Sem Op Lib Jvm.Free Jvm.Stand Jvm.LawKit Jvm.RoadKit Bundle Jvm.Pilot.@@N@@.Jvm.D
theorem own_eqi {args : Array Value} {s : State} {t : Term} {k : Int32} (h : (Jvm.Cond.eq t (.int k)).value args s none s [] = some true) : t.eval args s none [] s = some (.int k) := by
  simp only [Cond.value, Term.eval] at h
  cases ht : t.eval args s none [] s with
  | none => simp [ht] at h
  | some x => cases x <;> simp [ht] at h ⊢ <;> exact h
theorem own_nei {args : Array Value} {s : State} {t : Term} {k x : Int32} (h : (Jvm.Cond.not (Jvm.Cond.eq t (.int k))).value args s none s [] = some true) (ht : t.eval args s none [] s = some (.int x)) : ¬ (x = k) := by
  have h1 := not_v h
  simp only [Cond.value, ht, Term.eval] at h1
  intro e
  subst e
  simp at h1
theorem own_eqr {args : Array Value} {s : State} {t u : Term} {a : Addr} (h : (Jvm.Cond.eq t u).value args s none s [] = some true) (hu : u.eval args s none [] s = some (.ref a)) : t.eval args s none [] s = some (.ref a) := by
  simp only [Cond.value, hu] at h
  cases ht : t.eval args s none [] s with
  | none => simp [ht] at h
  | some x => cases x <;> simp [ht] at h ⊢ <;> exact h
theorem own_len {args : Array Value} {s : State} {t : Term} {a : Addr} {cl : Cell} {ty : FieldType} {n : Int32} (h : (Jvm.Cond.eq (.length t) (.int n)).value args s none s [] = some true) (ht : t.eval args s none [] s = some (.ref a)) (A : Arr s s.heap a cl ty) : cl.slots.size < 2 ^ 31 ∧ cl.slots.size.toInt32 = n := by
  have e := own_eqi h
  have q := A.fin (Vm.Alike.refl _)
  simp only [Term.eval, ht, q, Option.bind_eq_bind, Option.bind_some] at e
  split at e
  · rename_i q'
    exact ⟨q', Value.int.inj (Option.some.inj e)⟩
  · cases e
theorem own_mod3 (x : Int32) : ((x &&& (2147483647 : Int32)) % (3 : Int32)) = (0 : Int32) ∨ ((x &&& (2147483647 : Int32)) % (3 : Int32)) = (1 : Int32) ∨ ((x &&& (2147483647 : Int32)) % (3 : Int32)) = (2 : Int32) := by
  have h1 := c_mask x 2147483647 31 (by decide) (by decide)
  have h2 := (c_irem (x &&& (2147483647 : Int32)) (3 : Int32) 3 rfl).1 (by rw [h1]; omega)
  rw [h1] at h2
  have h3 : ((x &&& (2147483647 : Int32)) % (3 : Int32)).toInt = 0 ∨ ((x &&& (2147483647 : Int32)) % (3 : Int32)).toInt = 1 ∨ ((x &&& (2147483647 : Int32)) % (3 : Int32)).toInt = 2 := by omega
  rcases h3 with h | h | h
  · exact (Or.inl (Int32.toInt_inj.mp h))
  · exact (Or.inr (Or.inl (Int32.toInt_inj.mp h)))
  · exact (Or.inr (Or.inr (Int32.toInt_inj.mp h)))
theorem d1_0 : decode jdk_42_method_3_code 0 = .ok (.aload_n 0, 1) := by decide +kernel
theorem d1_1 : decode jdk_42_method_3_code 1 = .ok (.aload_n 1, 1) := by decide +kernel
theorem d1_2 : decode jdk_42_method_3_code 2 = .ok (.iconst 0, 1) := by decide +kernel
theorem d1_3 : decode jdk_42_method_3_code 3 = .ok (.aload_n 1, 1) := by decide +kernel
theorem d1_4 : decode jdk_42_method_3_code 4 = .ok (.arraylength, 1) := by decide +kernel
theorem d1_5 : decode jdk_42_method_3_code 5 = .ok (.aconst_null, 1) := by decide +kernel
theorem d1_6 : decode jdk_42_method_3_code 6 = .ok (.invokespecial 27, 3) := by decide +kernel
theorem d2_0 : decode jdk_42_method_149_code 0 = .ok (.aload_n 0, 1) := by decide +kernel
theorem d2_1 : decode jdk_42_method_149_code 1 = .ok (.invokespecial 1, 3) := by decide +kernel
theorem d2_4 : decode jdk_42_method_149_code 4 = .ok (.iload_n 3, 1) := by decide +kernel
theorem d2_5 : decode jdk_42_method_149_code 5 = .ok (.ifCond .ne 22, 3) := by decide +kernel
theorem d2_27 : decode jdk_42_method_149_code 27 = .ok (.getstatic 38, 3) := by decide +kernel
theorem d2_30 : decode jdk_42_method_149_code 30 = .ok (.ifCond .eq 28, 3) := by decide +kernel
theorem d2_33 : decode jdk_42_method_149_code 33 = .ok (.aload_n 1, 1) := by decide +kernel
theorem d2_34 : decode jdk_42_method_149_code 34 = .ok (.iload_n 2, 1) := by decide +kernel
theorem d2_35 : decode jdk_42_method_149_code 35 = .ok (.iload_n 3, 1) := by decide +kernel
theorem d2_36 : decode jdk_42_method_149_code 36 = .ok (.invokestatic 177, 3) := by decide +kernel
theorem d3_0 : decode jdk_52_method_16_code 0 = .ok (.iload_n 2, 1) := by decide +kernel
theorem d3_1 : decode jdk_52_method_16_code 1 = .ok (.newarray .byte, 2) := by decide +kernel
theorem d3_3 : decode jdk_52_method_16_code 3 = .ok (.astore_n 3, 1) := by decide +kernel
theorem d3_4 : decode jdk_52_method_16_code 4 = .ok (.aload_n 0, 1) := by decide +kernel
theorem d3_5 : decode jdk_52_method_16_code 5 = .ok (.iload_n 1, 1) := by decide +kernel
theorem d3_6 : decode jdk_52_method_16_code 6 = .ok (.aload_n 3, 1) := by decide +kernel
theorem d3_7 : decode jdk_52_method_16_code 7 = .ok (.iconst 0, 1) := by decide +kernel
theorem d3_8 : decode jdk_52_method_16_code 8 = .ok (.iload_n 2, 1) := by decide +kernel
theorem d3_9 : decode jdk_52_method_16_code 9 = .ok (.invokestatic 115, 3) := by decide +kernel
theorem d4_0 : decode jdk_52_method_21_code 0 = .ok (.iconst 0, 1) := by decide +kernel
theorem d4_1 : decode jdk_52_method_21_code 1 = .ok (.istore 5, 2) := by decide +kernel
theorem d4_3 : decode jdk_52_method_21_code 3 = .ok (.iload 5, 2) := by decide +kernel
theorem d4_5 : decode jdk_52_method_21_code 5 = .ok (.iload 4, 2) := by decide +kernel
theorem d4_7 : decode jdk_52_method_21_code 7 = .ok (.if_icmp .ge 37, 3) := by decide +kernel
theorem d4_10 : decode jdk_52_method_21_code 10 = .ok (.aload_n 0, 1) := by decide +kernel
theorem d4_11 : decode jdk_52_method_21_code 11 = .ok (.iload_n 1, 1) := by decide +kernel
theorem d4_12 : decode jdk_52_method_21_code 12 = .ok (.caload, 1) := by decide +kernel
theorem d4_13 : decode jdk_52_method_21_code 13 = .ok (.istore 6, 2) := by decide +kernel
theorem d4_15 : decode jdk_52_method_21_code 15 = .ok (.iload 6, 2) := by decide +kernel
theorem d4_17 : decode jdk_52_method_21_code 17 = .ok (.sipush 255, 3) := by decide +kernel
theorem d4_20 : decode jdk_52_method_21_code 20 = .ok (.if_icmp .le 6, 3) := by decide +kernel
theorem d4_26 : decode jdk_52_method_21_code 26 = .ok (.aload_n 2, 1) := by decide +kernel
theorem d4_27 : decode jdk_52_method_21_code 27 = .ok (.iload_n 3, 1) := by decide +kernel
theorem d4_28 : decode jdk_52_method_21_code 28 = .ok (.iload 6, 2) := by decide +kernel
theorem d4_30 : decode jdk_52_method_21_code 30 = .ok (.i2b, 1) := by decide +kernel
theorem d4_31 : decode jdk_52_method_21_code 31 = .ok (.bastore, 1) := by decide +kernel
theorem d4_32 : decode jdk_52_method_21_code 32 = .ok (.iinc 1 1, 3) := by decide +kernel
theorem d4_35 : decode jdk_52_method_21_code 35 = .ok (.iinc 3 1, 3) := by decide +kernel
theorem d4_38 : decode jdk_52_method_21_code 38 = .ok (.iinc 5 1, 3) := by decide +kernel
theorem d4_41 : decode jdk_52_method_21_code 41 = .ok (.goto (-38), 3) := by decide +kernel
theorem d4_44 : decode jdk_52_method_21_code 44 = .ok (.iload 4, 2) := by decide +kernel
theorem d4_46 : decode jdk_52_method_21_code 46 = .ok (.ireturn, 1) := by decide +kernel
theorem pn_0 : plainName "java/lang/StringUTF16" = true := by first | (simp [plainName, overriddenIn]; done) | decide +kernel
theorem efcompress5 (m : MethodId) (o0_ : Addr) (o1_ : Addr) : entryFrame m #[(.ref o0_), (.int (0 : Int32)), (.ref o1_), (.int (0 : Int32)), (.int (7 : Int32))] 7 = mkF m 0 #[.val (.ref o0_), .val (.int (0 : Int32)), .val (.ref o1_), .val (.int (0 : Int32)), .val (.int (7 : Int32)), .unset, .unset] [] := by first | (simp [entryFrame, mkF, argsToLocals, Value.category]; done) | rfl
def Qcompress5 (Z : State) (o0_ : Addr) (o1_ : Addr) (ko0_ : ClassId) (ko1_ : ClassId) (h0 : Heap) (n0 : Nat) (v : Option Value) (h : Heap) (L : List Loc) : Prop := v = some (.int (7 : Int32)) ∧ Fr n0 L ∧ Keep h0 h [o1_] ∧ Arv Z h o1_ ko1_ .byte (7 : Int32) [(.int (103 : Int32)), (.int (114 : Int32)), (.int (97 : Int32)), (.int (110 : Int32)), (.int (116 : Int32)), (.int (101 : Int32)), (.int (100 : Int32))] (.int (0 : Int32)) ∧ Exa Z h o1_ "[B"
set_option maxRecDepth 65536 in
set_option maxHeartbeats 40000000 in
theorem rmcompress5 (l : Launch) (Z : State) (a0 : Array Value) (hw : ∀ d ∈ tables_1, d.before a0 Z = true) (ws : List Jvm.Cond) (o0_ : Addr) (o1_ : Addr) (ko0_ : ClassId) (ko1_ : ClassId) (h0 : Heap) (n0 : Nat) (O0 : Old Z n0 h0) (P0 : Arv Z h0 o0_ ko0_ .char (7 : Int32) [(.int (103 : Int32)), (.int (114 : Int32)), (.int (97 : Int32)), (.int (110 : Int32)), (.int (116 : Int32)), (.int (101 : Int32)), (.int (100 : Int32))] (.int (0 : Int32))) (P1 : Exa Z h0 o0_ "[C") (P2 : Arv Z h0 o1_ ko1_ .byte (7 : Int32) [(.int (0 : Int32)), (.int (0 : Int32)), (.int (0 : Int32)), (.int (0 : Int32)), (.int (0 : Int32)), (.int (0 : Int32)), (.int (0 : Int32))] (.int (0 : Int32))) (P3 : Exa Z h0 o1_ "[B") (P4 : n0 ≤ o1_) (P5 : o0_ ≠ o1_) :
    MetFree l (⟨"java/lang/StringUTF16", "compress", "([CI[BII)I"⟩ : MethodName) (head1 (Jvm.Cond.code (⟨"java/lang/StringUTF16", "compress", "([CI[BII)I"⟩ : MethodName) jdk_52_method_21_code 7 (some .int) :: ws) ({ frames := 0, cells := 0, slots := 0, locals := 0 } : Room)) (fun a U => a = #[(.ref o0_), (.int (0 : Int32)), (.ref o1_), (.int (0 : Int32)), (.int (7 : Int32))] ∧ Z.Warmed39 U.vm ∧ U.heap = h0) (fun _ _ _ _ _ => True) (fun _ U o U' => ∃ v L, o = .returned v ∧ Qcompress5 Z o0_ o1_ ko0_ ko1_ h0 n0 v U'.heap L ∧ FrameEnd U o U' L ({ frames := 0, cells := 0, slots := 0, locals := 0 } : Room).cells ({ frames := 0, cells := 0, slots := 0, locals := 0 } : Room).slots) := by
  refine MetFree.of_bodySF (plainFor_of_name pn_0) hisR ?_
  intro p e s m args below meth c s₁ Bd hml0 hP hK
  obtain ⟨rfl, hZ, hh⟩ := hP
  have hx := Bd.exec
  have hby := Bd.bytes
  have hml : c.maxLocals = 7 := hml0
  have hown : s.vm.findClass "java/lang/StringUTF16" = some m.cls := findClass_of_methodNamed Bd.named
  have hnm := (name_of_methodNamed Bd.named Bd.method).1
  have X0 : Stand p l e ({ frames := 0, cells := 0, slots := 0, locals := 0 } : Room) s m #[(.ref o0_), (.int (0 : Int32)), (.ref o1_), (.int (0 : Int32)), (.int (7 : Int32))] below meth c s₁ [] 0 0 := Stand.of_body Bd
  have e0 : s₁.heap = h0 := by rw [← hh, Bd.state]; rfl
  have N0 := Fr.nil n0
  have pre0 : ∀ t, Steps p.tables e below (s₁.setTop (mkF m 0 #[.val (.ref o0_), .val (.int (0 : Int32)), .val (.ref o1_), .val (.int (0 : Int32)), .val (.int (7 : Int32)), .unset, .unset] [])) t → Steps p.tables e below (s₁.setTop (entryFrame m #[(.ref o0_), (.int (0 : Int32)), (.ref o1_), (.int (0 : Int32)), (.int (7 : Int32))] 7)) t := fun t k => castTop (efcompress5 m o0_ o1_) k
  have K0 : Keep h0 h0 [o1_] := Keep.refl _ _
  obtain ⟨c1, r1, q1, s1, z1, y1, G1⟩ := id P0
  have hin1 : ¬ ((0 : Int32) < 0 ∨ c1.slots.size ≤ ((0 : Int32)).toNatClampNeg) := inb_of s1 ⟨by decide, by decide⟩
  have hat1 : c1.slots[((0 : Int32)).toNatClampNeg]? = some (.int (103 : Int32)) := Has.at y1 hin1 rfl
  obtain ⟨c2, r2, q2, s2, z2, y2, G2⟩ := id P2
  have hin2 : ¬ ((0 : Int32) < 0 ∨ c2.slots.size ≤ ((0 : Int32)).toNatClampNeg) := inb_of s2 ⟨by decide, by decide⟩
  obtain ⟨T2, h2, X2, e2, W2, st2⟩ := stB X0 hx hZ e0 r2 (j := (0 : Int32)) hin2 (g := (mkF m 31 #[.val (.ref o0_), .val (.int (0 : Int32)), .val (.ref o1_), .val (.int (0 : Int32)), .val (.int (7 : Int32)), .val (.int (0 : Int32)), .val (.int (103 : Int32))] [(.int (103 : Int32)), (.int (0 : Int32)), (.ref o1_)])) rfl rfl (hb hby d4_31)
  have N3 := Fr.snoc X2 N0 P4
  have f4 : Arv Z h2 o1_ ko1_ .byte (7 : Int32) [(.int ((103 : Int32).toInt8.toInt32)), (.int (0 : Int32)), (.int (0 : Int32)), (.int (0 : Int32)), (.int (0 : Int32)), (.int (0 : Int32)), (.int (0 : Int32))] (.int (0 : Int32)) := Arv.set r2 q2 s2 z2 y2 G2 (fits_nar_byte _) W2 0 rfl (Nat.le_of_ble_eq_true rfl)
  have f5 : Arv Z h2 o1_ ko1_ .byte (7 : Int32) [(.int (103 : Int32)), (.int (0 : Int32)), (.int (0 : Int32)), (.int (0 : Int32)), (.int (0 : Int32)), (.int (0 : Int32)), (.int (0 : Int32))] (.int (0 : Int32)) := by have q := f4; exact q
  have f6 : Arv Z h2 o0_ ko0_ .char (7 : Int32) [(.int (103 : Int32)), (.int (114 : Int32)), (.int (97 : Int32)), (.int (110 : Int32)), (.int (116 : Int32)), (.int (101 : Int32)), (.int (100 : Int32))] (.int (0 : Int32)) := P0.other W2 P5
  obtain ⟨c7, r7, q7, s7, z7, y7, G7⟩ := id f6
  have hin7 : ¬ ((1 : Int32) < 0 ∨ c7.slots.size ≤ ((1 : Int32)).toNatClampNeg) := inb_of s7 ⟨by decide, by decide⟩
  have hat7 : c7.slots[((1 : Int32)).toNatClampNeg]? = some (.int (114 : Int32)) := Has.at y7 hin7 rfl
  obtain ⟨c8, r8, q8, s8, z8, y8, G8⟩ := id f5
  have hin8 : ¬ ((1 : Int32) < 0 ∨ c8.slots.size ≤ ((1 : Int32)).toNatClampNeg) := inb_of s8 ⟨by decide, by decide⟩
  obtain ⟨T8, h8, X8, e8, W8, st8⟩ := stB X2 hx hZ e2 r8 (j := (1 : Int32)) hin8 (g := (mkF m 31 #[.val (.ref o0_), .val (.int (1 : Int32)), .val (.ref o1_), .val (.int (1 : Int32)), .val (.int (7 : Int32)), .val (.int (1 : Int32)), .val (.int (114 : Int32))] [(.int (114 : Int32)), (.int (1 : Int32)), (.ref o1_)])) rfl rfl (hb hby d4_31)
  have N9 := Fr.snoc X8 N3 P4
  have f10 : Arv Z h8 o1_ ko1_ .byte (7 : Int32) [(.int (103 : Int32)), (.int ((114 : Int32).toInt8.toInt32)), (.int (0 : Int32)), (.int (0 : Int32)), (.int (0 : Int32)), (.int (0 : Int32)), (.int (0 : Int32))] (.int (0 : Int32)) := Arv.set r8 q8 s8 z8 y8 G8 (fits_nar_byte _) W8 1 rfl (Nat.le_of_ble_eq_true rfl)
  have f11 : Arv Z h8 o1_ ko1_ .byte (7 : Int32) [(.int (103 : Int32)), (.int (114 : Int32)), (.int (0 : Int32)), (.int (0 : Int32)), (.int (0 : Int32)), (.int (0 : Int32)), (.int (0 : Int32))] (.int (0 : Int32)) := by have q := f10; exact q
  have f12 : Arv Z h8 o0_ ko0_ .char (7 : Int32) [(.int (103 : Int32)), (.int (114 : Int32)), (.int (97 : Int32)), (.int (110 : Int32)), (.int (116 : Int32)), (.int (101 : Int32)), (.int (100 : Int32))] (.int (0 : Int32)) := f6.other W8 P5
  obtain ⟨c13, r13, q13, s13, z13, y13, G13⟩ := id f12
  have hin13 : ¬ ((2 : Int32) < 0 ∨ c13.slots.size ≤ ((2 : Int32)).toNatClampNeg) := inb_of s13 ⟨by decide, by decide⟩
  have hat13 : c13.slots[((2 : Int32)).toNatClampNeg]? = some (.int (97 : Int32)) := Has.at y13 hin13 rfl
  obtain ⟨c14, r14, q14, s14, z14, y14, G14⟩ := id f11
  have hin14 : ¬ ((2 : Int32) < 0 ∨ c14.slots.size ≤ ((2 : Int32)).toNatClampNeg) := inb_of s14 ⟨by decide, by decide⟩
  obtain ⟨T14, h14, X14, e14, W14, st14⟩ := stB X8 hx hZ e8 r14 (j := (2 : Int32)) hin14 (g := (mkF m 31 #[.val (.ref o0_), .val (.int (2 : Int32)), .val (.ref o1_), .val (.int (2 : Int32)), .val (.int (7 : Int32)), .val (.int (2 : Int32)), .val (.int (97 : Int32))] [(.int (97 : Int32)), (.int (2 : Int32)), (.ref o1_)])) rfl rfl (hb hby d4_31)
  have N15 := Fr.snoc X14 N9 P4
  have f16 : Arv Z h14 o1_ ko1_ .byte (7 : Int32) [(.int (103 : Int32)), (.int (114 : Int32)), (.int ((97 : Int32).toInt8.toInt32)), (.int (0 : Int32)), (.int (0 : Int32)), (.int (0 : Int32)), (.int (0 : Int32))] (.int (0 : Int32)) := Arv.set r14 q14 s14 z14 y14 G14 (fits_nar_byte _) W14 2 rfl (Nat.le_of_ble_eq_true rfl)
  have f17 : Arv Z h14 o1_ ko1_ .byte (7 : Int32) [(.int (103 : Int32)), (.int (114 : Int32)), (.int (97 : Int32)), (.int (0 : Int32)), (.int (0 : Int32)), (.int (0 : Int32)), (.int (0 : Int32))] (.int (0 : Int32)) := by have q := f16; exact q
  have f18 : Arv Z h14 o0_ ko0_ .char (7 : Int32) [(.int (103 : Int32)), (.int (114 : Int32)), (.int (97 : Int32)), (.int (110 : Int32)), (.int (116 : Int32)), (.int (101 : Int32)), (.int (100 : Int32))] (.int (0 : Int32)) := f12.other W14 P5
  obtain ⟨c19, r19, q19, s19, z19, y19, G19⟩ := id f18
  have hin19 : ¬ ((3 : Int32) < 0 ∨ c19.slots.size ≤ ((3 : Int32)).toNatClampNeg) := inb_of s19 ⟨by decide, by decide⟩
  have hat19 : c19.slots[((3 : Int32)).toNatClampNeg]? = some (.int (110 : Int32)) := Has.at y19 hin19 rfl
  obtain ⟨c20, r20, q20, s20, z20, y20, G20⟩ := id f17
  have hin20 : ¬ ((3 : Int32) < 0 ∨ c20.slots.size ≤ ((3 : Int32)).toNatClampNeg) := inb_of s20 ⟨by decide, by decide⟩
  obtain ⟨T20, h20, X20, e20, W20, st20⟩ := stB X14 hx hZ e14 r20 (j := (3 : Int32)) hin20 (g := (mkF m 31 #[.val (.ref o0_), .val (.int (3 : Int32)), .val (.ref o1_), .val (.int (3 : Int32)), .val (.int (7 : Int32)), .val (.int (3 : Int32)), .val (.int (110 : Int32))] [(.int (110 : Int32)), (.int (3 : Int32)), (.ref o1_)])) rfl rfl (hb hby d4_31)
  have N21 := Fr.snoc X20 N15 P4
  have f22 : Arv Z h20 o1_ ko1_ .byte (7 : Int32) [(.int (103 : Int32)), (.int (114 : Int32)), (.int (97 : Int32)), (.int ((110 : Int32).toInt8.toInt32)), (.int (0 : Int32)), (.int (0 : Int32)), (.int (0 : Int32))] (.int (0 : Int32)) := Arv.set r20 q20 s20 z20 y20 G20 (fits_nar_byte _) W20 3 rfl (Nat.le_of_ble_eq_true rfl)
  have f23 : Arv Z h20 o1_ ko1_ .byte (7 : Int32) [(.int (103 : Int32)), (.int (114 : Int32)), (.int (97 : Int32)), (.int (110 : Int32)), (.int (0 : Int32)), (.int (0 : Int32)), (.int (0 : Int32))] (.int (0 : Int32)) := by have q := f22; exact q
  have f24 : Arv Z h20 o0_ ko0_ .char (7 : Int32) [(.int (103 : Int32)), (.int (114 : Int32)), (.int (97 : Int32)), (.int (110 : Int32)), (.int (116 : Int32)), (.int (101 : Int32)), (.int (100 : Int32))] (.int (0 : Int32)) := f18.other W20 P5
  obtain ⟨c25, r25, q25, s25, z25, y25, G25⟩ := id f24
  have hin25 : ¬ ((4 : Int32) < 0 ∨ c25.slots.size ≤ ((4 : Int32)).toNatClampNeg) := inb_of s25 ⟨by decide, by decide⟩
  have hat25 : c25.slots[((4 : Int32)).toNatClampNeg]? = some (.int (116 : Int32)) := Has.at y25 hin25 rfl
  obtain ⟨c26, r26, q26, s26, z26, y26, G26⟩ := id f23
  have hin26 : ¬ ((4 : Int32) < 0 ∨ c26.slots.size ≤ ((4 : Int32)).toNatClampNeg) := inb_of s26 ⟨by decide, by decide⟩
  obtain ⟨T26, h26, X26, e26, W26, st26⟩ := stB X20 hx hZ e20 r26 (j := (4 : Int32)) hin26 (g := (mkF m 31 #[.val (.ref o0_), .val (.int (4 : Int32)), .val (.ref o1_), .val (.int (4 : Int32)), .val (.int (7 : Int32)), .val (.int (4 : Int32)), .val (.int (116 : Int32))] [(.int (116 : Int32)), (.int (4 : Int32)), (.ref o1_)])) rfl rfl (hb hby d4_31)
  have N27 := Fr.snoc X26 N21 P4
  have f28 : Arv Z h26 o1_ ko1_ .byte (7 : Int32) [(.int (103 : Int32)), (.int (114 : Int32)), (.int (97 : Int32)), (.int (110 : Int32)), (.int ((116 : Int32).toInt8.toInt32)), (.int (0 : Int32)), (.int (0 : Int32))] (.int (0 : Int32)) := Arv.set r26 q26 s26 z26 y26 G26 (fits_nar_byte _) W26 4 rfl (Nat.le_of_ble_eq_true rfl)
  have f29 : Arv Z h26 o1_ ko1_ .byte (7 : Int32) [(.int (103 : Int32)), (.int (114 : Int32)), (.int (97 : Int32)), (.int (110 : Int32)), (.int (116 : Int32)), (.int (0 : Int32)), (.int (0 : Int32))] (.int (0 : Int32)) := by have q := f28; exact q
  have f30 : Arv Z h26 o0_ ko0_ .char (7 : Int32) [(.int (103 : Int32)), (.int (114 : Int32)), (.int (97 : Int32)), (.int (110 : Int32)), (.int (116 : Int32)), (.int (101 : Int32)), (.int (100 : Int32))] (.int (0 : Int32)) := f24.other W26 P5
  obtain ⟨c31, r31, q31, s31, z31, y31, G31⟩ := id f30
  have hin31 : ¬ ((5 : Int32) < 0 ∨ c31.slots.size ≤ ((5 : Int32)).toNatClampNeg) := inb_of s31 ⟨by decide, by decide⟩
  have hat31 : c31.slots[((5 : Int32)).toNatClampNeg]? = some (.int (101 : Int32)) := Has.at y31 hin31 rfl
  obtain ⟨c32, r32, q32, s32, z32, y32, G32⟩ := id f29
  have hin32 : ¬ ((5 : Int32) < 0 ∨ c32.slots.size ≤ ((5 : Int32)).toNatClampNeg) := inb_of s32 ⟨by decide, by decide⟩
  obtain ⟨T32, h32, X32, e32, W32, st32⟩ := stB X26 hx hZ e26 r32 (j := (5 : Int32)) hin32 (g := (mkF m 31 #[.val (.ref o0_), .val (.int (5 : Int32)), .val (.ref o1_), .val (.int (5 : Int32)), .val (.int (7 : Int32)), .val (.int (5 : Int32)), .val (.int (101 : Int32))] [(.int (101 : Int32)), (.int (5 : Int32)), (.ref o1_)])) rfl rfl (hb hby d4_31)
  have N33 := Fr.snoc X32 N27 P4
  have f34 : Arv Z h32 o1_ ko1_ .byte (7 : Int32) [(.int (103 : Int32)), (.int (114 : Int32)), (.int (97 : Int32)), (.int (110 : Int32)), (.int (116 : Int32)), (.int ((101 : Int32).toInt8.toInt32)), (.int (0 : Int32))] (.int (0 : Int32)) := Arv.set r32 q32 s32 z32 y32 G32 (fits_nar_byte _) W32 5 rfl (Nat.le_of_ble_eq_true rfl)
  have f35 : Arv Z h32 o1_ ko1_ .byte (7 : Int32) [(.int (103 : Int32)), (.int (114 : Int32)), (.int (97 : Int32)), (.int (110 : Int32)), (.int (116 : Int32)), (.int (101 : Int32)), (.int (0 : Int32))] (.int (0 : Int32)) := by have q := f34; exact q
  have f36 : Arv Z h32 o0_ ko0_ .char (7 : Int32) [(.int (103 : Int32)), (.int (114 : Int32)), (.int (97 : Int32)), (.int (110 : Int32)), (.int (116 : Int32)), (.int (101 : Int32)), (.int (100 : Int32))] (.int (0 : Int32)) := f30.other W32 P5
  obtain ⟨c37, r37, q37, s37, z37, y37, G37⟩ := id f36
  have hin37 : ¬ ((6 : Int32) < 0 ∨ c37.slots.size ≤ ((6 : Int32)).toNatClampNeg) := inb_of s37 ⟨by decide, by decide⟩
  have hat37 : c37.slots[((6 : Int32)).toNatClampNeg]? = some (.int (100 : Int32)) := Has.at y37 hin37 rfl
  obtain ⟨c38, r38, q38, s38, z38, y38, G38⟩ := id f35
  have hin38 : ¬ ((6 : Int32) < 0 ∨ c38.slots.size ≤ ((6 : Int32)).toNatClampNeg) := inb_of s38 ⟨by decide, by decide⟩
  obtain ⟨T38, h38, X38, e38, W38, st38⟩ := stB X32 hx hZ e32 r38 (j := (6 : Int32)) hin38 (g := (mkF m 31 #[.val (.ref o0_), .val (.int (6 : Int32)), .val (.ref o1_), .val (.int (6 : Int32)), .val (.int (7 : Int32)), .val (.int (6 : Int32)), .val (.int (100 : Int32))] [(.int (100 : Int32)), (.int (6 : Int32)), (.ref o1_)])) rfl rfl (hb hby d4_31)
  have N39 := Fr.snoc X38 N33 P4
  have f40 : Arv Z h38 o1_ ko1_ .byte (7 : Int32) [(.int (103 : Int32)), (.int (114 : Int32)), (.int (97 : Int32)), (.int (110 : Int32)), (.int (116 : Int32)), (.int (101 : Int32)), (.int ((100 : Int32).toInt8.toInt32))] (.int (0 : Int32)) := Arv.set r38 q38 s38 z38 y38 G38 (fits_nar_byte _) W38 6 rfl (Nat.le_of_ble_eq_true rfl)
  have f41 : Arv Z h38 o1_ ko1_ .byte (7 : Int32) [(.int (103 : Int32)), (.int (114 : Int32)), (.int (97 : Int32)), (.int (110 : Int32)), (.int (116 : Int32)), (.int (101 : Int32)), (.int (100 : Int32))] (.int (0 : Int32)) := by have q := f40; exact q
  have pre42 : ∀ t, Steps p.tables e below (T38.setTop (mkF m 46 #[.val (.ref o0_), .val (.int (7 : Int32)), .val (.ref o1_), .val (.int (7 : Int32)), .val (.int (7 : Int32)), .val (.int (7 : Int32)), .val (.int (100 : Int32))] [(.int (7 : Int32))])) t → Steps p.tables e below (s₁.setTop (entryFrame m #[(.ref o0_), (.int (0 : Int32)), (.ref o1_), (.int (0 : Int32)), (.int (7 : Int32))] 7)) t := by
    intro t kt
    refine pre0 t ?_
    show Steps p.tables e below (s₁.setTop (mkF m 0 #[.val (.ref o0_), .val (.int (0 : Int32)), .val (.ref o1_), .val (.int (0 : Int32)), .val (.int (7 : Int32)), .unset, .unset] [])) _
    refine XS.iconst X0.here hx rfl (hb hby d4_0) ?_
    show Steps p.tables e below (s₁.setTop (mkF m 1 #[.val (.ref o0_), .val (.int (0 : Int32)), .val (.ref o1_), .val (.int (0 : Int32)), .val (.int (7 : Int32)), .unset, .unset] [(.int (0 : Int32))])) _
    refine XS.istore X0.here hx rfl (hb hby d4_1) rfl (l' := #[.val (.ref o0_), .val (.int (0 : Int32)), .val (.ref o1_), .val (.int (0 : Int32)), .val (.int (7 : Int32)), .val (.int (0 : Int32)), .unset]) rfl ?_
    show Steps p.tables e below (s₁.setTop (mkF m 3 #[.val (.ref o0_), .val (.int (0 : Int32)), .val (.ref o1_), .val (.int (0 : Int32)), .val (.int (7 : Int32)), .val (.int (0 : Int32)), .unset] [])) _
    refine XS.iload X0.here hx rfl (hb hby d4_3) rfl ?_
    show Steps p.tables e below (s₁.setTop (mkF m 5 #[.val (.ref o0_), .val (.int (0 : Int32)), .val (.ref o1_), .val (.int (0 : Int32)), .val (.int (7 : Int32)), .val (.int (0 : Int32)), .unset] [(.int (0 : Int32))])) _
    refine XS.iload X0.here hx rfl (hb hby d4_5) rfl ?_
    show Steps p.tables e below (s₁.setTop (mkF m 7 #[.val (.ref o0_), .val (.int (0 : Int32)), .val (.ref o1_), .val (.int (0 : Int32)), .val (.int (7 : Int32)), .val (.int (0 : Int32)), .unset] [(.int (7 : Int32)), (.int (0 : Int32))])) _
    refine XS.icmpNo X0.here hx rfl (hb hby d4_7) rfl (tlt (by decide : (0 : Int32) < (7 : Int32))).2.1 ?_
    show Steps p.tables e below (s₁.setTop (mkF m 10 #[.val (.ref o0_), .val (.int (0 : Int32)), .val (.ref o1_), .val (.int (0 : Int32)), .val (.int (7 : Int32)), .val (.int (0 : Int32)), .unset] [])) _
    refine XS.aloadN X0.here hx rfl (hb hby d4_10) rfl rfl ?_
    show Steps p.tables e below (s₁.setTop (mkF m 11 #[.val (.ref o0_), .val (.int (0 : Int32)), .val (.ref o1_), .val (.int (0 : Int32)), .val (.int (7 : Int32)), .val (.int (0 : Int32)), .unset] [(.ref o0_)])) _
    refine XS.iloadN X0.here hx rfl (hb hby d4_11) rfl ?_
    show Steps p.tables e below (s₁.setTop (mkF m 12 #[.val (.ref o0_), .val (.int (0 : Int32)), .val (.ref o1_), .val (.int (0 : Int32)), .val (.int (7 : Int32)), .val (.int (0 : Int32)), .unset] [(.int (0 : Int32)), (.ref o0_)])) _
    refine X0.caload hx (j := (0 : Int32)) (v := (.int (103 : Int32))) (by rw [e0]; exact r1.1) (State.isArrayOf_alike hZ.alike r1.2.1) r1.2.2 hin1 hat1 (g := (mkF m 12 #[.val (.ref o0_), .val (.int (0 : Int32)), .val (.ref o1_), .val (.int (0 : Int32)), .val (.int (7 : Int32)), .val (.int (0 : Int32)), .unset] [(.int (0 : Int32)), (.ref o0_)])) rfl rfl (hb hby d4_12) _ ?_
    show Steps p.tables e below (s₁.setTop (mkF m 13 #[.val (.ref o0_), .val (.int (0 : Int32)), .val (.ref o1_), .val (.int (0 : Int32)), .val (.int (7 : Int32)), .val (.int (0 : Int32)), .unset] [(.int (103 : Int32))])) _
    refine XS.istore X0.here hx rfl (hb hby d4_13) rfl (l' := #[.val (.ref o0_), .val (.int (0 : Int32)), .val (.ref o1_), .val (.int (0 : Int32)), .val (.int (7 : Int32)), .val (.int (0 : Int32)), .val (.int (103 : Int32))]) rfl ?_
    show Steps p.tables e below (s₁.setTop (mkF m 15 #[.val (.ref o0_), .val (.int (0 : Int32)), .val (.ref o1_), .val (.int (0 : Int32)), .val (.int (7 : Int32)), .val (.int (0 : Int32)), .val (.int (103 : Int32))] [])) _
    refine XS.iload X0.here hx rfl (hb hby d4_15) rfl ?_
    show Steps p.tables e below (s₁.setTop (mkF m 17 #[.val (.ref o0_), .val (.int (0 : Int32)), .val (.ref o1_), .val (.int (0 : Int32)), .val (.int (7 : Int32)), .val (.int (0 : Int32)), .val (.int (103 : Int32))] [(.int (103 : Int32))])) _
    refine XS.sipush X0.here hx rfl (hb hby d4_17) ?_
    show Steps p.tables e below (s₁.setTop (mkF m 20 #[.val (.ref o0_), .val (.int (0 : Int32)), .val (.ref o1_), .val (.int (0 : Int32)), .val (.int (7 : Int32)), .val (.int (0 : Int32)), .val (.int (103 : Int32))] [(.int (255 : Int32)), (.int (103 : Int32))])) _
    refine XS.icmpYes X0.here hx rfl (pc0 := 20) (pc' := 26) rfl (hb hby d4_20) rfl (flt (by decide : ¬ ((255 : Int32) < (103 : Int32)))).2.2.2 (by decide) (by decide) ?_
    show Steps p.tables e below (s₁.setTop (mkF m 26 #[.val (.ref o0_), .val (.int (0 : Int32)), .val (.ref o1_), .val (.int (0 : Int32)), .val (.int (7 : Int32)), .val (.int (0 : Int32)), .val (.int (103 : Int32))] [])) _
    refine XS.aloadN X0.here hx rfl (hb hby d4_26) rfl rfl ?_
    show Steps p.tables e below (s₁.setTop (mkF m 27 #[.val (.ref o0_), .val (.int (0 : Int32)), .val (.ref o1_), .val (.int (0 : Int32)), .val (.int (7 : Int32)), .val (.int (0 : Int32)), .val (.int (103 : Int32))] [(.ref o1_)])) _
    refine XS.iloadN X0.here hx rfl (hb hby d4_27) rfl ?_
    show Steps p.tables e below (s₁.setTop (mkF m 28 #[.val (.ref o0_), .val (.int (0 : Int32)), .val (.ref o1_), .val (.int (0 : Int32)), .val (.int (7 : Int32)), .val (.int (0 : Int32)), .val (.int (103 : Int32))] [(.int (0 : Int32)), (.ref o1_)])) _
    refine XS.iload X0.here hx rfl (hb hby d4_28) rfl ?_
    show Steps p.tables e below (s₁.setTop (mkF m 30 #[.val (.ref o0_), .val (.int (0 : Int32)), .val (.ref o1_), .val (.int (0 : Int32)), .val (.int (7 : Int32)), .val (.int (0 : Int32)), .val (.int (103 : Int32))] [(.int (103 : Int32)), (.int (0 : Int32)), (.ref o1_)])) _
    refine XS.i2b X0.here hx rfl (hb hby d4_30) rfl ?_
    show Steps p.tables e below (s₁.setTop (mkF m 31 #[.val (.ref o0_), .val (.int (0 : Int32)), .val (.ref o1_), .val (.int (0 : Int32)), .val (.int (7 : Int32)), .val (.int (0 : Int32)), .val (.int (103 : Int32))] [(.int (103 : Int32)), (.int (0 : Int32)), (.ref o1_)])) _
    refine st2 _ ?_
    show Steps p.tables e below (T2.setTop (mkF m 32 #[.val (.ref o0_), .val (.int (0 : Int32)), .val (.ref o1_), .val (.int (0 : Int32)), .val (.int (7 : Int32)), .val (.int (0 : Int32)), .val (.int (103 : Int32))] [])) _
    refine XS.iinc X2.here hx rfl (hb hby d4_32) rfl (l' := #[.val (.ref o0_), .val (.int (1 : Int32)), .val (.ref o1_), .val (.int (0 : Int32)), .val (.int (7 : Int32)), .val (.int (0 : Int32)), .val (.int (103 : Int32))]) rfl ?_
    show Steps p.tables e below (T2.setTop (mkF m 35 #[.val (.ref o0_), .val (.int (1 : Int32)), .val (.ref o1_), .val (.int (0 : Int32)), .val (.int (7 : Int32)), .val (.int (0 : Int32)), .val (.int (103 : Int32))] [])) _
    refine XS.iinc X2.here hx rfl (hb hby d4_35) rfl (l' := #[.val (.ref o0_), .val (.int (1 : Int32)), .val (.ref o1_), .val (.int (1 : Int32)), .val (.int (7 : Int32)), .val (.int (0 : Int32)), .val (.int (103 : Int32))]) rfl ?_
    show Steps p.tables e below (T2.setTop (mkF m 38 #[.val (.ref o0_), .val (.int (1 : Int32)), .val (.ref o1_), .val (.int (1 : Int32)), .val (.int (7 : Int32)), .val (.int (0 : Int32)), .val (.int (103 : Int32))] [])) _
    refine XS.iinc X2.here hx rfl (hb hby d4_38) rfl (l' := #[.val (.ref o0_), .val (.int (1 : Int32)), .val (.ref o1_), .val (.int (1 : Int32)), .val (.int (7 : Int32)), .val (.int (1 : Int32)), .val (.int (103 : Int32))]) rfl ?_
    show Steps p.tables e below (T2.setTop (mkF m 41 #[.val (.ref o0_), .val (.int (1 : Int32)), .val (.ref o1_), .val (.int (1 : Int32)), .val (.int (7 : Int32)), .val (.int (1 : Int32)), .val (.int (103 : Int32))] [])) _
    refine XS.goto X2.here hx rfl (pc0 := 41) (pc' := 3) rfl (hb hby d4_41) (by decide) (by decide) ?_
    show Steps p.tables e below (T2.setTop (mkF m 3 #[.val (.ref o0_), .val (.int (1 : Int32)), .val (.ref o1_), .val (.int (1 : Int32)), .val (.int (7 : Int32)), .val (.int (1 : Int32)), .val (.int (103 : Int32))] [])) _
    refine XS.iload X2.here hx rfl (hb hby d4_3) rfl ?_
    show Steps p.tables e below (T2.setTop (mkF m 5 #[.val (.ref o0_), .val (.int (1 : Int32)), .val (.ref o1_), .val (.int (1 : Int32)), .val (.int (7 : Int32)), .val (.int (1 : Int32)), .val (.int (103 : Int32))] [(.int (1 : Int32))])) _
    refine XS.iload X2.here hx rfl (hb hby d4_5) rfl ?_
    show Steps p.tables e below (T2.setTop (mkF m 7 #[.val (.ref o0_), .val (.int (1 : Int32)), .val (.ref o1_), .val (.int (1 : Int32)), .val (.int (7 : Int32)), .val (.int (1 : Int32)), .val (.int (103 : Int32))] [(.int (7 : Int32)), (.int (1 : Int32))])) _
    refine XS.icmpNo X2.here hx rfl (hb hby d4_7) rfl (tlt (by decide : (1 : Int32) < (7 : Int32))).2.1 ?_
    show Steps p.tables e below (T2.setTop (mkF m 10 #[.val (.ref o0_), .val (.int (1 : Int32)), .val (.ref o1_), .val (.int (1 : Int32)), .val (.int (7 : Int32)), .val (.int (1 : Int32)), .val (.int (103 : Int32))] [])) _
    refine XS.aloadN X2.here hx rfl (hb hby d4_10) rfl rfl ?_
    show Steps p.tables e below (T2.setTop (mkF m 11 #[.val (.ref o0_), .val (.int (1 : Int32)), .val (.ref o1_), .val (.int (1 : Int32)), .val (.int (7 : Int32)), .val (.int (1 : Int32)), .val (.int (103 : Int32))] [(.ref o0_)])) _
    refine XS.iloadN X2.here hx rfl (hb hby d4_11) rfl ?_
    show Steps p.tables e below (T2.setTop (mkF m 12 #[.val (.ref o0_), .val (.int (1 : Int32)), .val (.ref o1_), .val (.int (1 : Int32)), .val (.int (7 : Int32)), .val (.int (1 : Int32)), .val (.int (103 : Int32))] [(.int (1 : Int32)), (.ref o0_)])) _
    refine X2.caload hx (j := (1 : Int32)) (v := (.int (114 : Int32))) (by rw [e2]; exact r7.1) (State.isArrayOf_alike hZ.alike r7.2.1) r7.2.2 hin7 hat7 (g := (mkF m 12 #[.val (.ref o0_), .val (.int (1 : Int32)), .val (.ref o1_), .val (.int (1 : Int32)), .val (.int (7 : Int32)), .val (.int (1 : Int32)), .val (.int (103 : Int32))] [(.int (1 : Int32)), (.ref o0_)])) rfl rfl (hb hby d4_12) _ ?_
    show Steps p.tables e below (T2.setTop (mkF m 13 #[.val (.ref o0_), .val (.int (1 : Int32)), .val (.ref o1_), .val (.int (1 : Int32)), .val (.int (7 : Int32)), .val (.int (1 : Int32)), .val (.int (103 : Int32))] [(.int (114 : Int32))])) _
    refine XS.istore X2.here hx rfl (hb hby d4_13) rfl (l' := #[.val (.ref o0_), .val (.int (1 : Int32)), .val (.ref o1_), .val (.int (1 : Int32)), .val (.int (7 : Int32)), .val (.int (1 : Int32)), .val (.int (114 : Int32))]) rfl ?_
    show Steps p.tables e below (T2.setTop (mkF m 15 #[.val (.ref o0_), .val (.int (1 : Int32)), .val (.ref o1_), .val (.int (1 : Int32)), .val (.int (7 : Int32)), .val (.int (1 : Int32)), .val (.int (114 : Int32))] [])) _
    refine XS.iload X2.here hx rfl (hb hby d4_15) rfl ?_
    show Steps p.tables e below (T2.setTop (mkF m 17 #[.val (.ref o0_), .val (.int (1 : Int32)), .val (.ref o1_), .val (.int (1 : Int32)), .val (.int (7 : Int32)), .val (.int (1 : Int32)), .val (.int (114 : Int32))] [(.int (114 : Int32))])) _
    refine XS.sipush X2.here hx rfl (hb hby d4_17) ?_
    show Steps p.tables e below (T2.setTop (mkF m 20 #[.val (.ref o0_), .val (.int (1 : Int32)), .val (.ref o1_), .val (.int (1 : Int32)), .val (.int (7 : Int32)), .val (.int (1 : Int32)), .val (.int (114 : Int32))] [(.int (255 : Int32)), (.int (114 : Int32))])) _
    refine XS.icmpYes X2.here hx rfl (pc0 := 20) (pc' := 26) rfl (hb hby d4_20) rfl (flt (by decide : ¬ ((255 : Int32) < (114 : Int32)))).2.2.2 (by decide) (by decide) ?_
    show Steps p.tables e below (T2.setTop (mkF m 26 #[.val (.ref o0_), .val (.int (1 : Int32)), .val (.ref o1_), .val (.int (1 : Int32)), .val (.int (7 : Int32)), .val (.int (1 : Int32)), .val (.int (114 : Int32))] [])) _
    refine XS.aloadN X2.here hx rfl (hb hby d4_26) rfl rfl ?_
    show Steps p.tables e below (T2.setTop (mkF m 27 #[.val (.ref o0_), .val (.int (1 : Int32)), .val (.ref o1_), .val (.int (1 : Int32)), .val (.int (7 : Int32)), .val (.int (1 : Int32)), .val (.int (114 : Int32))] [(.ref o1_)])) _
    refine XS.iloadN X2.here hx rfl (hb hby d4_27) rfl ?_
    show Steps p.tables e below (T2.setTop (mkF m 28 #[.val (.ref o0_), .val (.int (1 : Int32)), .val (.ref o1_), .val (.int (1 : Int32)), .val (.int (7 : Int32)), .val (.int (1 : Int32)), .val (.int (114 : Int32))] [(.int (1 : Int32)), (.ref o1_)])) _
    refine XS.iload X2.here hx rfl (hb hby d4_28) rfl ?_
    show Steps p.tables e below (T2.setTop (mkF m 30 #[.val (.ref o0_), .val (.int (1 : Int32)), .val (.ref o1_), .val (.int (1 : Int32)), .val (.int (7 : Int32)), .val (.int (1 : Int32)), .val (.int (114 : Int32))] [(.int (114 : Int32)), (.int (1 : Int32)), (.ref o1_)])) _
    refine XS.i2b X2.here hx rfl (hb hby d4_30) rfl ?_
    show Steps p.tables e below (T2.setTop (mkF m 31 #[.val (.ref o0_), .val (.int (1 : Int32)), .val (.ref o1_), .val (.int (1 : Int32)), .val (.int (7 : Int32)), .val (.int (1 : Int32)), .val (.int (114 : Int32))] [(.int (114 : Int32)), (.int (1 : Int32)), (.ref o1_)])) _
    refine st8 _ ?_
    show Steps p.tables e below (T8.setTop (mkF m 32 #[.val (.ref o0_), .val (.int (1 : Int32)), .val (.ref o1_), .val (.int (1 : Int32)), .val (.int (7 : Int32)), .val (.int (1 : Int32)), .val (.int (114 : Int32))] [])) _
    refine XS.iinc X8.here hx rfl (hb hby d4_32) rfl (l' := #[.val (.ref o0_), .val (.int (2 : Int32)), .val (.ref o1_), .val (.int (1 : Int32)), .val (.int (7 : Int32)), .val (.int (1 : Int32)), .val (.int (114 : Int32))]) rfl ?_
    show Steps p.tables e below (T8.setTop (mkF m 35 #[.val (.ref o0_), .val (.int (2 : Int32)), .val (.ref o1_), .val (.int (1 : Int32)), .val (.int (7 : Int32)), .val (.int (1 : Int32)), .val (.int (114 : Int32))] [])) _
    refine XS.iinc X8.here hx rfl (hb hby d4_35) rfl (l' := #[.val (.ref o0_), .val (.int (2 : Int32)), .val (.ref o1_), .val (.int (2 : Int32)), .val (.int (7 : Int32)), .val (.int (1 : Int32)), .val (.int (114 : Int32))]) rfl ?_
    show Steps p.tables e below (T8.setTop (mkF m 38 #[.val (.ref o0_), .val (.int (2 : Int32)), .val (.ref o1_), .val (.int (2 : Int32)), .val (.int (7 : Int32)), .val (.int (1 : Int32)), .val (.int (114 : Int32))] [])) _
    refine XS.iinc X8.here hx rfl (hb hby d4_38) rfl (l' := #[.val (.ref o0_), .val (.int (2 : Int32)), .val (.ref o1_), .val (.int (2 : Int32)), .val (.int (7 : Int32)), .val (.int (2 : Int32)), .val (.int (114 : Int32))]) rfl ?_
    show Steps p.tables e below (T8.setTop (mkF m 41 #[.val (.ref o0_), .val (.int (2 : Int32)), .val (.ref o1_), .val (.int (2 : Int32)), .val (.int (7 : Int32)), .val (.int (2 : Int32)), .val (.int (114 : Int32))] [])) _
    refine XS.goto X8.here hx rfl (pc0 := 41) (pc' := 3) rfl (hb hby d4_41) (by decide) (by decide) ?_
    show Steps p.tables e below (T8.setTop (mkF m 3 #[.val (.ref o0_), .val (.int (2 : Int32)), .val (.ref o1_), .val (.int (2 : Int32)), .val (.int (7 : Int32)), .val (.int (2 : Int32)), .val (.int (114 : Int32))] [])) _
    refine XS.iload X8.here hx rfl (hb hby d4_3) rfl ?_
    show Steps p.tables e below (T8.setTop (mkF m 5 #[.val (.ref o0_), .val (.int (2 : Int32)), .val (.ref o1_), .val (.int (2 : Int32)), .val (.int (7 : Int32)), .val (.int (2 : Int32)), .val (.int (114 : Int32))] [(.int (2 : Int32))])) _
    refine XS.iload X8.here hx rfl (hb hby d4_5) rfl ?_
    show Steps p.tables e below (T8.setTop (mkF m 7 #[.val (.ref o0_), .val (.int (2 : Int32)), .val (.ref o1_), .val (.int (2 : Int32)), .val (.int (7 : Int32)), .val (.int (2 : Int32)), .val (.int (114 : Int32))] [(.int (7 : Int32)), (.int (2 : Int32))])) _
    refine XS.icmpNo X8.here hx rfl (hb hby d4_7) rfl (tlt (by decide : (2 : Int32) < (7 : Int32))).2.1 ?_
    show Steps p.tables e below (T8.setTop (mkF m 10 #[.val (.ref o0_), .val (.int (2 : Int32)), .val (.ref o1_), .val (.int (2 : Int32)), .val (.int (7 : Int32)), .val (.int (2 : Int32)), .val (.int (114 : Int32))] [])) _
    refine XS.aloadN X8.here hx rfl (hb hby d4_10) rfl rfl ?_
    show Steps p.tables e below (T8.setTop (mkF m 11 #[.val (.ref o0_), .val (.int (2 : Int32)), .val (.ref o1_), .val (.int (2 : Int32)), .val (.int (7 : Int32)), .val (.int (2 : Int32)), .val (.int (114 : Int32))] [(.ref o0_)])) _
    refine XS.iloadN X8.here hx rfl (hb hby d4_11) rfl ?_
    show Steps p.tables e below (T8.setTop (mkF m 12 #[.val (.ref o0_), .val (.int (2 : Int32)), .val (.ref o1_), .val (.int (2 : Int32)), .val (.int (7 : Int32)), .val (.int (2 : Int32)), .val (.int (114 : Int32))] [(.int (2 : Int32)), (.ref o0_)])) _
    refine X8.caload hx (j := (2 : Int32)) (v := (.int (97 : Int32))) (by rw [e8]; exact r13.1) (State.isArrayOf_alike hZ.alike r13.2.1) r13.2.2 hin13 hat13 (g := (mkF m 12 #[.val (.ref o0_), .val (.int (2 : Int32)), .val (.ref o1_), .val (.int (2 : Int32)), .val (.int (7 : Int32)), .val (.int (2 : Int32)), .val (.int (114 : Int32))] [(.int (2 : Int32)), (.ref o0_)])) rfl rfl (hb hby d4_12) _ ?_
    show Steps p.tables e below (T8.setTop (mkF m 13 #[.val (.ref o0_), .val (.int (2 : Int32)), .val (.ref o1_), .val (.int (2 : Int32)), .val (.int (7 : Int32)), .val (.int (2 : Int32)), .val (.int (114 : Int32))] [(.int (97 : Int32))])) _
    refine XS.istore X8.here hx rfl (hb hby d4_13) rfl (l' := #[.val (.ref o0_), .val (.int (2 : Int32)), .val (.ref o1_), .val (.int (2 : Int32)), .val (.int (7 : Int32)), .val (.int (2 : Int32)), .val (.int (97 : Int32))]) rfl ?_
    show Steps p.tables e below (T8.setTop (mkF m 15 #[.val (.ref o0_), .val (.int (2 : Int32)), .val (.ref o1_), .val (.int (2 : Int32)), .val (.int (7 : Int32)), .val (.int (2 : Int32)), .val (.int (97 : Int32))] [])) _
    refine XS.iload X8.here hx rfl (hb hby d4_15) rfl ?_
    show Steps p.tables e below (T8.setTop (mkF m 17 #[.val (.ref o0_), .val (.int (2 : Int32)), .val (.ref o1_), .val (.int (2 : Int32)), .val (.int (7 : Int32)), .val (.int (2 : Int32)), .val (.int (97 : Int32))] [(.int (97 : Int32))])) _
    refine XS.sipush X8.here hx rfl (hb hby d4_17) ?_
    show Steps p.tables e below (T8.setTop (mkF m 20 #[.val (.ref o0_), .val (.int (2 : Int32)), .val (.ref o1_), .val (.int (2 : Int32)), .val (.int (7 : Int32)), .val (.int (2 : Int32)), .val (.int (97 : Int32))] [(.int (255 : Int32)), (.int (97 : Int32))])) _
    refine XS.icmpYes X8.here hx rfl (pc0 := 20) (pc' := 26) rfl (hb hby d4_20) rfl (flt (by decide : ¬ ((255 : Int32) < (97 : Int32)))).2.2.2 (by decide) (by decide) ?_
    show Steps p.tables e below (T8.setTop (mkF m 26 #[.val (.ref o0_), .val (.int (2 : Int32)), .val (.ref o1_), .val (.int (2 : Int32)), .val (.int (7 : Int32)), .val (.int (2 : Int32)), .val (.int (97 : Int32))] [])) _
    refine XS.aloadN X8.here hx rfl (hb hby d4_26) rfl rfl ?_
    show Steps p.tables e below (T8.setTop (mkF m 27 #[.val (.ref o0_), .val (.int (2 : Int32)), .val (.ref o1_), .val (.int (2 : Int32)), .val (.int (7 : Int32)), .val (.int (2 : Int32)), .val (.int (97 : Int32))] [(.ref o1_)])) _
    refine XS.iloadN X8.here hx rfl (hb hby d4_27) rfl ?_
    show Steps p.tables e below (T8.setTop (mkF m 28 #[.val (.ref o0_), .val (.int (2 : Int32)), .val (.ref o1_), .val (.int (2 : Int32)), .val (.int (7 : Int32)), .val (.int (2 : Int32)), .val (.int (97 : Int32))] [(.int (2 : Int32)), (.ref o1_)])) _
    refine XS.iload X8.here hx rfl (hb hby d4_28) rfl ?_
    show Steps p.tables e below (T8.setTop (mkF m 30 #[.val (.ref o0_), .val (.int (2 : Int32)), .val (.ref o1_), .val (.int (2 : Int32)), .val (.int (7 : Int32)), .val (.int (2 : Int32)), .val (.int (97 : Int32))] [(.int (97 : Int32)), (.int (2 : Int32)), (.ref o1_)])) _
    refine XS.i2b X8.here hx rfl (hb hby d4_30) rfl ?_
    show Steps p.tables e below (T8.setTop (mkF m 31 #[.val (.ref o0_), .val (.int (2 : Int32)), .val (.ref o1_), .val (.int (2 : Int32)), .val (.int (7 : Int32)), .val (.int (2 : Int32)), .val (.int (97 : Int32))] [(.int (97 : Int32)), (.int (2 : Int32)), (.ref o1_)])) _
    refine st14 _ ?_
    show Steps p.tables e below (T14.setTop (mkF m 32 #[.val (.ref o0_), .val (.int (2 : Int32)), .val (.ref o1_), .val (.int (2 : Int32)), .val (.int (7 : Int32)), .val (.int (2 : Int32)), .val (.int (97 : Int32))] [])) _
    refine XS.iinc X14.here hx rfl (hb hby d4_32) rfl (l' := #[.val (.ref o0_), .val (.int (3 : Int32)), .val (.ref o1_), .val (.int (2 : Int32)), .val (.int (7 : Int32)), .val (.int (2 : Int32)), .val (.int (97 : Int32))]) rfl ?_
    show Steps p.tables e below (T14.setTop (mkF m 35 #[.val (.ref o0_), .val (.int (3 : Int32)), .val (.ref o1_), .val (.int (2 : Int32)), .val (.int (7 : Int32)), .val (.int (2 : Int32)), .val (.int (97 : Int32))] [])) _
    refine XS.iinc X14.here hx rfl (hb hby d4_35) rfl (l' := #[.val (.ref o0_), .val (.int (3 : Int32)), .val (.ref o1_), .val (.int (3 : Int32)), .val (.int (7 : Int32)), .val (.int (2 : Int32)), .val (.int (97 : Int32))]) rfl ?_
    show Steps p.tables e below (T14.setTop (mkF m 38 #[.val (.ref o0_), .val (.int (3 : Int32)), .val (.ref o1_), .val (.int (3 : Int32)), .val (.int (7 : Int32)), .val (.int (2 : Int32)), .val (.int (97 : Int32))] [])) _
    refine XS.iinc X14.here hx rfl (hb hby d4_38) rfl (l' := #[.val (.ref o0_), .val (.int (3 : Int32)), .val (.ref o1_), .val (.int (3 : Int32)), .val (.int (7 : Int32)), .val (.int (3 : Int32)), .val (.int (97 : Int32))]) rfl ?_
    show Steps p.tables e below (T14.setTop (mkF m 41 #[.val (.ref o0_), .val (.int (3 : Int32)), .val (.ref o1_), .val (.int (3 : Int32)), .val (.int (7 : Int32)), .val (.int (3 : Int32)), .val (.int (97 : Int32))] [])) _
    refine XS.goto X14.here hx rfl (pc0 := 41) (pc' := 3) rfl (hb hby d4_41) (by decide) (by decide) ?_
    show Steps p.tables e below (T14.setTop (mkF m 3 #[.val (.ref o0_), .val (.int (3 : Int32)), .val (.ref o1_), .val (.int (3 : Int32)), .val (.int (7 : Int32)), .val (.int (3 : Int32)), .val (.int (97 : Int32))] [])) _
    refine XS.iload X14.here hx rfl (hb hby d4_3) rfl ?_
    show Steps p.tables e below (T14.setTop (mkF m 5 #[.val (.ref o0_), .val (.int (3 : Int32)), .val (.ref o1_), .val (.int (3 : Int32)), .val (.int (7 : Int32)), .val (.int (3 : Int32)), .val (.int (97 : Int32))] [(.int (3 : Int32))])) _
    refine XS.iload X14.here hx rfl (hb hby d4_5) rfl ?_
    show Steps p.tables e below (T14.setTop (mkF m 7 #[.val (.ref o0_), .val (.int (3 : Int32)), .val (.ref o1_), .val (.int (3 : Int32)), .val (.int (7 : Int32)), .val (.int (3 : Int32)), .val (.int (97 : Int32))] [(.int (7 : Int32)), (.int (3 : Int32))])) _
    refine XS.icmpNo X14.here hx rfl (hb hby d4_7) rfl (tlt (by decide : (3 : Int32) < (7 : Int32))).2.1 ?_
    show Steps p.tables e below (T14.setTop (mkF m 10 #[.val (.ref o0_), .val (.int (3 : Int32)), .val (.ref o1_), .val (.int (3 : Int32)), .val (.int (7 : Int32)), .val (.int (3 : Int32)), .val (.int (97 : Int32))] [])) _
    refine XS.aloadN X14.here hx rfl (hb hby d4_10) rfl rfl ?_
    show Steps p.tables e below (T14.setTop (mkF m 11 #[.val (.ref o0_), .val (.int (3 : Int32)), .val (.ref o1_), .val (.int (3 : Int32)), .val (.int (7 : Int32)), .val (.int (3 : Int32)), .val (.int (97 : Int32))] [(.ref o0_)])) _
    refine XS.iloadN X14.here hx rfl (hb hby d4_11) rfl ?_
    show Steps p.tables e below (T14.setTop (mkF m 12 #[.val (.ref o0_), .val (.int (3 : Int32)), .val (.ref o1_), .val (.int (3 : Int32)), .val (.int (7 : Int32)), .val (.int (3 : Int32)), .val (.int (97 : Int32))] [(.int (3 : Int32)), (.ref o0_)])) _
    refine X14.caload hx (j := (3 : Int32)) (v := (.int (110 : Int32))) (by rw [e14]; exact r19.1) (State.isArrayOf_alike hZ.alike r19.2.1) r19.2.2 hin19 hat19 (g := (mkF m 12 #[.val (.ref o0_), .val (.int (3 : Int32)), .val (.ref o1_), .val (.int (3 : Int32)), .val (.int (7 : Int32)), .val (.int (3 : Int32)), .val (.int (97 : Int32))] [(.int (3 : Int32)), (.ref o0_)])) rfl rfl (hb hby d4_12) _ ?_
    show Steps p.tables e below (T14.setTop (mkF m 13 #[.val (.ref o0_), .val (.int (3 : Int32)), .val (.ref o1_), .val (.int (3 : Int32)), .val (.int (7 : Int32)), .val (.int (3 : Int32)), .val (.int (97 : Int32))] [(.int (110 : Int32))])) _
    refine XS.istore X14.here hx rfl (hb hby d4_13) rfl (l' := #[.val (.ref o0_), .val (.int (3 : Int32)), .val (.ref o1_), .val (.int (3 : Int32)), .val (.int (7 : Int32)), .val (.int (3 : Int32)), .val (.int (110 : Int32))]) rfl ?_
    show Steps p.tables e below (T14.setTop (mkF m 15 #[.val (.ref o0_), .val (.int (3 : Int32)), .val (.ref o1_), .val (.int (3 : Int32)), .val (.int (7 : Int32)), .val (.int (3 : Int32)), .val (.int (110 : Int32))] [])) _
    refine XS.iload X14.here hx rfl (hb hby d4_15) rfl ?_
    show Steps p.tables e below (T14.setTop (mkF m 17 #[.val (.ref o0_), .val (.int (3 : Int32)), .val (.ref o1_), .val (.int (3 : Int32)), .val (.int (7 : Int32)), .val (.int (3 : Int32)), .val (.int (110 : Int32))] [(.int (110 : Int32))])) _
    refine XS.sipush X14.here hx rfl (hb hby d4_17) ?_
    show Steps p.tables e below (T14.setTop (mkF m 20 #[.val (.ref o0_), .val (.int (3 : Int32)), .val (.ref o1_), .val (.int (3 : Int32)), .val (.int (7 : Int32)), .val (.int (3 : Int32)), .val (.int (110 : Int32))] [(.int (255 : Int32)), (.int (110 : Int32))])) _
    refine XS.icmpYes X14.here hx rfl (pc0 := 20) (pc' := 26) rfl (hb hby d4_20) rfl (flt (by decide : ¬ ((255 : Int32) < (110 : Int32)))).2.2.2 (by decide) (by decide) ?_
    show Steps p.tables e below (T14.setTop (mkF m 26 #[.val (.ref o0_), .val (.int (3 : Int32)), .val (.ref o1_), .val (.int (3 : Int32)), .val (.int (7 : Int32)), .val (.int (3 : Int32)), .val (.int (110 : Int32))] [])) _
    refine XS.aloadN X14.here hx rfl (hb hby d4_26) rfl rfl ?_
    show Steps p.tables e below (T14.setTop (mkF m 27 #[.val (.ref o0_), .val (.int (3 : Int32)), .val (.ref o1_), .val (.int (3 : Int32)), .val (.int (7 : Int32)), .val (.int (3 : Int32)), .val (.int (110 : Int32))] [(.ref o1_)])) _
    refine XS.iloadN X14.here hx rfl (hb hby d4_27) rfl ?_
    show Steps p.tables e below (T14.setTop (mkF m 28 #[.val (.ref o0_), .val (.int (3 : Int32)), .val (.ref o1_), .val (.int (3 : Int32)), .val (.int (7 : Int32)), .val (.int (3 : Int32)), .val (.int (110 : Int32))] [(.int (3 : Int32)), (.ref o1_)])) _
    refine XS.iload X14.here hx rfl (hb hby d4_28) rfl ?_
    show Steps p.tables e below (T14.setTop (mkF m 30 #[.val (.ref o0_), .val (.int (3 : Int32)), .val (.ref o1_), .val (.int (3 : Int32)), .val (.int (7 : Int32)), .val (.int (3 : Int32)), .val (.int (110 : Int32))] [(.int (110 : Int32)), (.int (3 : Int32)), (.ref o1_)])) _
    refine XS.i2b X14.here hx rfl (hb hby d4_30) rfl ?_
    show Steps p.tables e below (T14.setTop (mkF m 31 #[.val (.ref o0_), .val (.int (3 : Int32)), .val (.ref o1_), .val (.int (3 : Int32)), .val (.int (7 : Int32)), .val (.int (3 : Int32)), .val (.int (110 : Int32))] [(.int (110 : Int32)), (.int (3 : Int32)), (.ref o1_)])) _
    refine st20 _ ?_
    show Steps p.tables e below (T20.setTop (mkF m 32 #[.val (.ref o0_), .val (.int (3 : Int32)), .val (.ref o1_), .val (.int (3 : Int32)), .val (.int (7 : Int32)), .val (.int (3 : Int32)), .val (.int (110 : Int32))] [])) _
    refine XS.iinc X20.here hx rfl (hb hby d4_32) rfl (l' := #[.val (.ref o0_), .val (.int (4 : Int32)), .val (.ref o1_), .val (.int (3 : Int32)), .val (.int (7 : Int32)), .val (.int (3 : Int32)), .val (.int (110 : Int32))]) rfl ?_
    show Steps p.tables e below (T20.setTop (mkF m 35 #[.val (.ref o0_), .val (.int (4 : Int32)), .val (.ref o1_), .val (.int (3 : Int32)), .val (.int (7 : Int32)), .val (.int (3 : Int32)), .val (.int (110 : Int32))] [])) _
    refine XS.iinc X20.here hx rfl (hb hby d4_35) rfl (l' := #[.val (.ref o0_), .val (.int (4 : Int32)), .val (.ref o1_), .val (.int (4 : Int32)), .val (.int (7 : Int32)), .val (.int (3 : Int32)), .val (.int (110 : Int32))]) rfl ?_
    show Steps p.tables e below (T20.setTop (mkF m 38 #[.val (.ref o0_), .val (.int (4 : Int32)), .val (.ref o1_), .val (.int (4 : Int32)), .val (.int (7 : Int32)), .val (.int (3 : Int32)), .val (.int (110 : Int32))] [])) _
    refine XS.iinc X20.here hx rfl (hb hby d4_38) rfl (l' := #[.val (.ref o0_), .val (.int (4 : Int32)), .val (.ref o1_), .val (.int (4 : Int32)), .val (.int (7 : Int32)), .val (.int (4 : Int32)), .val (.int (110 : Int32))]) rfl ?_
    show Steps p.tables e below (T20.setTop (mkF m 41 #[.val (.ref o0_), .val (.int (4 : Int32)), .val (.ref o1_), .val (.int (4 : Int32)), .val (.int (7 : Int32)), .val (.int (4 : Int32)), .val (.int (110 : Int32))] [])) _
    refine XS.goto X20.here hx rfl (pc0 := 41) (pc' := 3) rfl (hb hby d4_41) (by decide) (by decide) ?_
    show Steps p.tables e below (T20.setTop (mkF m 3 #[.val (.ref o0_), .val (.int (4 : Int32)), .val (.ref o1_), .val (.int (4 : Int32)), .val (.int (7 : Int32)), .val (.int (4 : Int32)), .val (.int (110 : Int32))] [])) _
    refine XS.iload X20.here hx rfl (hb hby d4_3) rfl ?_
    show Steps p.tables e below (T20.setTop (mkF m 5 #[.val (.ref o0_), .val (.int (4 : Int32)), .val (.ref o1_), .val (.int (4 : Int32)), .val (.int (7 : Int32)), .val (.int (4 : Int32)), .val (.int (110 : Int32))] [(.int (4 : Int32))])) _
    refine XS.iload X20.here hx rfl (hb hby d4_5) rfl ?_
    show Steps p.tables e below (T20.setTop (mkF m 7 #[.val (.ref o0_), .val (.int (4 : Int32)), .val (.ref o1_), .val (.int (4 : Int32)), .val (.int (7 : Int32)), .val (.int (4 : Int32)), .val (.int (110 : Int32))] [(.int (7 : Int32)), (.int (4 : Int32))])) _
    refine XS.icmpNo X20.here hx rfl (hb hby d4_7) rfl (tlt (by decide : (4 : Int32) < (7 : Int32))).2.1 ?_
    show Steps p.tables e below (T20.setTop (mkF m 10 #[.val (.ref o0_), .val (.int (4 : Int32)), .val (.ref o1_), .val (.int (4 : Int32)), .val (.int (7 : Int32)), .val (.int (4 : Int32)), .val (.int (110 : Int32))] [])) _
    refine XS.aloadN X20.here hx rfl (hb hby d4_10) rfl rfl ?_
    show Steps p.tables e below (T20.setTop (mkF m 11 #[.val (.ref o0_), .val (.int (4 : Int32)), .val (.ref o1_), .val (.int (4 : Int32)), .val (.int (7 : Int32)), .val (.int (4 : Int32)), .val (.int (110 : Int32))] [(.ref o0_)])) _
    refine XS.iloadN X20.here hx rfl (hb hby d4_11) rfl ?_
    show Steps p.tables e below (T20.setTop (mkF m 12 #[.val (.ref o0_), .val (.int (4 : Int32)), .val (.ref o1_), .val (.int (4 : Int32)), .val (.int (7 : Int32)), .val (.int (4 : Int32)), .val (.int (110 : Int32))] [(.int (4 : Int32)), (.ref o0_)])) _
    refine X20.caload hx (j := (4 : Int32)) (v := (.int (116 : Int32))) (by rw [e20]; exact r25.1) (State.isArrayOf_alike hZ.alike r25.2.1) r25.2.2 hin25 hat25 (g := (mkF m 12 #[.val (.ref o0_), .val (.int (4 : Int32)), .val (.ref o1_), .val (.int (4 : Int32)), .val (.int (7 : Int32)), .val (.int (4 : Int32)), .val (.int (110 : Int32))] [(.int (4 : Int32)), (.ref o0_)])) rfl rfl (hb hby d4_12) _ ?_
    show Steps p.tables e below (T20.setTop (mkF m 13 #[.val (.ref o0_), .val (.int (4 : Int32)), .val (.ref o1_), .val (.int (4 : Int32)), .val (.int (7 : Int32)), .val (.int (4 : Int32)), .val (.int (110 : Int32))] [(.int (116 : Int32))])) _
    refine XS.istore X20.here hx rfl (hb hby d4_13) rfl (l' := #[.val (.ref o0_), .val (.int (4 : Int32)), .val (.ref o1_), .val (.int (4 : Int32)), .val (.int (7 : Int32)), .val (.int (4 : Int32)), .val (.int (116 : Int32))]) rfl ?_
    show Steps p.tables e below (T20.setTop (mkF m 15 #[.val (.ref o0_), .val (.int (4 : Int32)), .val (.ref o1_), .val (.int (4 : Int32)), .val (.int (7 : Int32)), .val (.int (4 : Int32)), .val (.int (116 : Int32))] [])) _
    refine XS.iload X20.here hx rfl (hb hby d4_15) rfl ?_
    show Steps p.tables e below (T20.setTop (mkF m 17 #[.val (.ref o0_), .val (.int (4 : Int32)), .val (.ref o1_), .val (.int (4 : Int32)), .val (.int (7 : Int32)), .val (.int (4 : Int32)), .val (.int (116 : Int32))] [(.int (116 : Int32))])) _
    refine XS.sipush X20.here hx rfl (hb hby d4_17) ?_
    show Steps p.tables e below (T20.setTop (mkF m 20 #[.val (.ref o0_), .val (.int (4 : Int32)), .val (.ref o1_), .val (.int (4 : Int32)), .val (.int (7 : Int32)), .val (.int (4 : Int32)), .val (.int (116 : Int32))] [(.int (255 : Int32)), (.int (116 : Int32))])) _
    refine XS.icmpYes X20.here hx rfl (pc0 := 20) (pc' := 26) rfl (hb hby d4_20) rfl (flt (by decide : ¬ ((255 : Int32) < (116 : Int32)))).2.2.2 (by decide) (by decide) ?_
    show Steps p.tables e below (T20.setTop (mkF m 26 #[.val (.ref o0_), .val (.int (4 : Int32)), .val (.ref o1_), .val (.int (4 : Int32)), .val (.int (7 : Int32)), .val (.int (4 : Int32)), .val (.int (116 : Int32))] [])) _
    refine XS.aloadN X20.here hx rfl (hb hby d4_26) rfl rfl ?_
    show Steps p.tables e below (T20.setTop (mkF m 27 #[.val (.ref o0_), .val (.int (4 : Int32)), .val (.ref o1_), .val (.int (4 : Int32)), .val (.int (7 : Int32)), .val (.int (4 : Int32)), .val (.int (116 : Int32))] [(.ref o1_)])) _
    refine XS.iloadN X20.here hx rfl (hb hby d4_27) rfl ?_
    show Steps p.tables e below (T20.setTop (mkF m 28 #[.val (.ref o0_), .val (.int (4 : Int32)), .val (.ref o1_), .val (.int (4 : Int32)), .val (.int (7 : Int32)), .val (.int (4 : Int32)), .val (.int (116 : Int32))] [(.int (4 : Int32)), (.ref o1_)])) _
    refine XS.iload X20.here hx rfl (hb hby d4_28) rfl ?_
    show Steps p.tables e below (T20.setTop (mkF m 30 #[.val (.ref o0_), .val (.int (4 : Int32)), .val (.ref o1_), .val (.int (4 : Int32)), .val (.int (7 : Int32)), .val (.int (4 : Int32)), .val (.int (116 : Int32))] [(.int (116 : Int32)), (.int (4 : Int32)), (.ref o1_)])) _
    refine XS.i2b X20.here hx rfl (hb hby d4_30) rfl ?_
    show Steps p.tables e below (T20.setTop (mkF m 31 #[.val (.ref o0_), .val (.int (4 : Int32)), .val (.ref o1_), .val (.int (4 : Int32)), .val (.int (7 : Int32)), .val (.int (4 : Int32)), .val (.int (116 : Int32))] [(.int (116 : Int32)), (.int (4 : Int32)), (.ref o1_)])) _
    refine st26 _ ?_
    show Steps p.tables e below (T26.setTop (mkF m 32 #[.val (.ref o0_), .val (.int (4 : Int32)), .val (.ref o1_), .val (.int (4 : Int32)), .val (.int (7 : Int32)), .val (.int (4 : Int32)), .val (.int (116 : Int32))] [])) _
    refine XS.iinc X26.here hx rfl (hb hby d4_32) rfl (l' := #[.val (.ref o0_), .val (.int (5 : Int32)), .val (.ref o1_), .val (.int (4 : Int32)), .val (.int (7 : Int32)), .val (.int (4 : Int32)), .val (.int (116 : Int32))]) rfl ?_
    show Steps p.tables e below (T26.setTop (mkF m 35 #[.val (.ref o0_), .val (.int (5 : Int32)), .val (.ref o1_), .val (.int (4 : Int32)), .val (.int (7 : Int32)), .val (.int (4 : Int32)), .val (.int (116 : Int32))] [])) _
    refine XS.iinc X26.here hx rfl (hb hby d4_35) rfl (l' := #[.val (.ref o0_), .val (.int (5 : Int32)), .val (.ref o1_), .val (.int (5 : Int32)), .val (.int (7 : Int32)), .val (.int (4 : Int32)), .val (.int (116 : Int32))]) rfl ?_
    show Steps p.tables e below (T26.setTop (mkF m 38 #[.val (.ref o0_), .val (.int (5 : Int32)), .val (.ref o1_), .val (.int (5 : Int32)), .val (.int (7 : Int32)), .val (.int (4 : Int32)), .val (.int (116 : Int32))] [])) _
    refine XS.iinc X26.here hx rfl (hb hby d4_38) rfl (l' := #[.val (.ref o0_), .val (.int (5 : Int32)), .val (.ref o1_), .val (.int (5 : Int32)), .val (.int (7 : Int32)), .val (.int (5 : Int32)), .val (.int (116 : Int32))]) rfl ?_
    show Steps p.tables e below (T26.setTop (mkF m 41 #[.val (.ref o0_), .val (.int (5 : Int32)), .val (.ref o1_), .val (.int (5 : Int32)), .val (.int (7 : Int32)), .val (.int (5 : Int32)), .val (.int (116 : Int32))] [])) _
    refine XS.goto X26.here hx rfl (pc0 := 41) (pc' := 3) rfl (hb hby d4_41) (by decide) (by decide) ?_
    show Steps p.tables e below (T26.setTop (mkF m 3 #[.val (.ref o0_), .val (.int (5 : Int32)), .val (.ref o1_), .val (.int (5 : Int32)), .val (.int (7 : Int32)), .val (.int (5 : Int32)), .val (.int (116 : Int32))] [])) _
    refine XS.iload X26.here hx rfl (hb hby d4_3) rfl ?_
    show Steps p.tables e below (T26.setTop (mkF m 5 #[.val (.ref o0_), .val (.int (5 : Int32)), .val (.ref o1_), .val (.int (5 : Int32)), .val (.int (7 : Int32)), .val (.int (5 : Int32)), .val (.int (116 : Int32))] [(.int (5 : Int32))])) _
    refine XS.iload X26.here hx rfl (hb hby d4_5) rfl ?_
    show Steps p.tables e below (T26.setTop (mkF m 7 #[.val (.ref o0_), .val (.int (5 : Int32)), .val (.ref o1_), .val (.int (5 : Int32)), .val (.int (7 : Int32)), .val (.int (5 : Int32)), .val (.int (116 : Int32))] [(.int (7 : Int32)), (.int (5 : Int32))])) _
    refine XS.icmpNo X26.here hx rfl (hb hby d4_7) rfl (tlt (by decide : (5 : Int32) < (7 : Int32))).2.1 ?_
    show Steps p.tables e below (T26.setTop (mkF m 10 #[.val (.ref o0_), .val (.int (5 : Int32)), .val (.ref o1_), .val (.int (5 : Int32)), .val (.int (7 : Int32)), .val (.int (5 : Int32)), .val (.int (116 : Int32))] [])) _
    refine XS.aloadN X26.here hx rfl (hb hby d4_10) rfl rfl ?_
    show Steps p.tables e below (T26.setTop (mkF m 11 #[.val (.ref o0_), .val (.int (5 : Int32)), .val (.ref o1_), .val (.int (5 : Int32)), .val (.int (7 : Int32)), .val (.int (5 : Int32)), .val (.int (116 : Int32))] [(.ref o0_)])) _
    refine XS.iloadN X26.here hx rfl (hb hby d4_11) rfl ?_
    show Steps p.tables e below (T26.setTop (mkF m 12 #[.val (.ref o0_), .val (.int (5 : Int32)), .val (.ref o1_), .val (.int (5 : Int32)), .val (.int (7 : Int32)), .val (.int (5 : Int32)), .val (.int (116 : Int32))] [(.int (5 : Int32)), (.ref o0_)])) _
    refine X26.caload hx (j := (5 : Int32)) (v := (.int (101 : Int32))) (by rw [e26]; exact r31.1) (State.isArrayOf_alike hZ.alike r31.2.1) r31.2.2 hin31 hat31 (g := (mkF m 12 #[.val (.ref o0_), .val (.int (5 : Int32)), .val (.ref o1_), .val (.int (5 : Int32)), .val (.int (7 : Int32)), .val (.int (5 : Int32)), .val (.int (116 : Int32))] [(.int (5 : Int32)), (.ref o0_)])) rfl rfl (hb hby d4_12) _ ?_
    show Steps p.tables e below (T26.setTop (mkF m 13 #[.val (.ref o0_), .val (.int (5 : Int32)), .val (.ref o1_), .val (.int (5 : Int32)), .val (.int (7 : Int32)), .val (.int (5 : Int32)), .val (.int (116 : Int32))] [(.int (101 : Int32))])) _
    refine XS.istore X26.here hx rfl (hb hby d4_13) rfl (l' := #[.val (.ref o0_), .val (.int (5 : Int32)), .val (.ref o1_), .val (.int (5 : Int32)), .val (.int (7 : Int32)), .val (.int (5 : Int32)), .val (.int (101 : Int32))]) rfl ?_
    show Steps p.tables e below (T26.setTop (mkF m 15 #[.val (.ref o0_), .val (.int (5 : Int32)), .val (.ref o1_), .val (.int (5 : Int32)), .val (.int (7 : Int32)), .val (.int (5 : Int32)), .val (.int (101 : Int32))] [])) _
    refine XS.iload X26.here hx rfl (hb hby d4_15) rfl ?_
    show Steps p.tables e below (T26.setTop (mkF m 17 #[.val (.ref o0_), .val (.int (5 : Int32)), .val (.ref o1_), .val (.int (5 : Int32)), .val (.int (7 : Int32)), .val (.int (5 : Int32)), .val (.int (101 : Int32))] [(.int (101 : Int32))])) _
    refine XS.sipush X26.here hx rfl (hb hby d4_17) ?_
    show Steps p.tables e below (T26.setTop (mkF m 20 #[.val (.ref o0_), .val (.int (5 : Int32)), .val (.ref o1_), .val (.int (5 : Int32)), .val (.int (7 : Int32)), .val (.int (5 : Int32)), .val (.int (101 : Int32))] [(.int (255 : Int32)), (.int (101 : Int32))])) _
    refine XS.icmpYes X26.here hx rfl (pc0 := 20) (pc' := 26) rfl (hb hby d4_20) rfl (flt (by decide : ¬ ((255 : Int32) < (101 : Int32)))).2.2.2 (by decide) (by decide) ?_
    show Steps p.tables e below (T26.setTop (mkF m 26 #[.val (.ref o0_), .val (.int (5 : Int32)), .val (.ref o1_), .val (.int (5 : Int32)), .val (.int (7 : Int32)), .val (.int (5 : Int32)), .val (.int (101 : Int32))] [])) _
    refine XS.aloadN X26.here hx rfl (hb hby d4_26) rfl rfl ?_
    show Steps p.tables e below (T26.setTop (mkF m 27 #[.val (.ref o0_), .val (.int (5 : Int32)), .val (.ref o1_), .val (.int (5 : Int32)), .val (.int (7 : Int32)), .val (.int (5 : Int32)), .val (.int (101 : Int32))] [(.ref o1_)])) _
    refine XS.iloadN X26.here hx rfl (hb hby d4_27) rfl ?_
    show Steps p.tables e below (T26.setTop (mkF m 28 #[.val (.ref o0_), .val (.int (5 : Int32)), .val (.ref o1_), .val (.int (5 : Int32)), .val (.int (7 : Int32)), .val (.int (5 : Int32)), .val (.int (101 : Int32))] [(.int (5 : Int32)), (.ref o1_)])) _
    refine XS.iload X26.here hx rfl (hb hby d4_28) rfl ?_
    show Steps p.tables e below (T26.setTop (mkF m 30 #[.val (.ref o0_), .val (.int (5 : Int32)), .val (.ref o1_), .val (.int (5 : Int32)), .val (.int (7 : Int32)), .val (.int (5 : Int32)), .val (.int (101 : Int32))] [(.int (101 : Int32)), (.int (5 : Int32)), (.ref o1_)])) _
    refine XS.i2b X26.here hx rfl (hb hby d4_30) rfl ?_
    show Steps p.tables e below (T26.setTop (mkF m 31 #[.val (.ref o0_), .val (.int (5 : Int32)), .val (.ref o1_), .val (.int (5 : Int32)), .val (.int (7 : Int32)), .val (.int (5 : Int32)), .val (.int (101 : Int32))] [(.int (101 : Int32)), (.int (5 : Int32)), (.ref o1_)])) _
    refine st32 _ ?_
    show Steps p.tables e below (T32.setTop (mkF m 32 #[.val (.ref o0_), .val (.int (5 : Int32)), .val (.ref o1_), .val (.int (5 : Int32)), .val (.int (7 : Int32)), .val (.int (5 : Int32)), .val (.int (101 : Int32))] [])) _
    refine XS.iinc X32.here hx rfl (hb hby d4_32) rfl (l' := #[.val (.ref o0_), .val (.int (6 : Int32)), .val (.ref o1_), .val (.int (5 : Int32)), .val (.int (7 : Int32)), .val (.int (5 : Int32)), .val (.int (101 : Int32))]) rfl ?_
    show Steps p.tables e below (T32.setTop (mkF m 35 #[.val (.ref o0_), .val (.int (6 : Int32)), .val (.ref o1_), .val (.int (5 : Int32)), .val (.int (7 : Int32)), .val (.int (5 : Int32)), .val (.int (101 : Int32))] [])) _
    refine XS.iinc X32.here hx rfl (hb hby d4_35) rfl (l' := #[.val (.ref o0_), .val (.int (6 : Int32)), .val (.ref o1_), .val (.int (6 : Int32)), .val (.int (7 : Int32)), .val (.int (5 : Int32)), .val (.int (101 : Int32))]) rfl ?_
    show Steps p.tables e below (T32.setTop (mkF m 38 #[.val (.ref o0_), .val (.int (6 : Int32)), .val (.ref o1_), .val (.int (6 : Int32)), .val (.int (7 : Int32)), .val (.int (5 : Int32)), .val (.int (101 : Int32))] [])) _
    refine XS.iinc X32.here hx rfl (hb hby d4_38) rfl (l' := #[.val (.ref o0_), .val (.int (6 : Int32)), .val (.ref o1_), .val (.int (6 : Int32)), .val (.int (7 : Int32)), .val (.int (6 : Int32)), .val (.int (101 : Int32))]) rfl ?_
    show Steps p.tables e below (T32.setTop (mkF m 41 #[.val (.ref o0_), .val (.int (6 : Int32)), .val (.ref o1_), .val (.int (6 : Int32)), .val (.int (7 : Int32)), .val (.int (6 : Int32)), .val (.int (101 : Int32))] [])) _
    refine XS.goto X32.here hx rfl (pc0 := 41) (pc' := 3) rfl (hb hby d4_41) (by decide) (by decide) ?_
    show Steps p.tables e below (T32.setTop (mkF m 3 #[.val (.ref o0_), .val (.int (6 : Int32)), .val (.ref o1_), .val (.int (6 : Int32)), .val (.int (7 : Int32)), .val (.int (6 : Int32)), .val (.int (101 : Int32))] [])) _
    refine XS.iload X32.here hx rfl (hb hby d4_3) rfl ?_
    show Steps p.tables e below (T32.setTop (mkF m 5 #[.val (.ref o0_), .val (.int (6 : Int32)), .val (.ref o1_), .val (.int (6 : Int32)), .val (.int (7 : Int32)), .val (.int (6 : Int32)), .val (.int (101 : Int32))] [(.int (6 : Int32))])) _
    refine XS.iload X32.here hx rfl (hb hby d4_5) rfl ?_
    show Steps p.tables e below (T32.setTop (mkF m 7 #[.val (.ref o0_), .val (.int (6 : Int32)), .val (.ref o1_), .val (.int (6 : Int32)), .val (.int (7 : Int32)), .val (.int (6 : Int32)), .val (.int (101 : Int32))] [(.int (7 : Int32)), (.int (6 : Int32))])) _
    refine XS.icmpNo X32.here hx rfl (hb hby d4_7) rfl (tlt (by decide : (6 : Int32) < (7 : Int32))).2.1 ?_
    show Steps p.tables e below (T32.setTop (mkF m 10 #[.val (.ref o0_), .val (.int (6 : Int32)), .val (.ref o1_), .val (.int (6 : Int32)), .val (.int (7 : Int32)), .val (.int (6 : Int32)), .val (.int (101 : Int32))] [])) _
    refine XS.aloadN X32.here hx rfl (hb hby d4_10) rfl rfl ?_
    show Steps p.tables e below (T32.setTop (mkF m 11 #[.val (.ref o0_), .val (.int (6 : Int32)), .val (.ref o1_), .val (.int (6 : Int32)), .val (.int (7 : Int32)), .val (.int (6 : Int32)), .val (.int (101 : Int32))] [(.ref o0_)])) _
    refine XS.iloadN X32.here hx rfl (hb hby d4_11) rfl ?_
    show Steps p.tables e below (T32.setTop (mkF m 12 #[.val (.ref o0_), .val (.int (6 : Int32)), .val (.ref o1_), .val (.int (6 : Int32)), .val (.int (7 : Int32)), .val (.int (6 : Int32)), .val (.int (101 : Int32))] [(.int (6 : Int32)), (.ref o0_)])) _
    refine X32.caload hx (j := (6 : Int32)) (v := (.int (100 : Int32))) (by rw [e32]; exact r37.1) (State.isArrayOf_alike hZ.alike r37.2.1) r37.2.2 hin37 hat37 (g := (mkF m 12 #[.val (.ref o0_), .val (.int (6 : Int32)), .val (.ref o1_), .val (.int (6 : Int32)), .val (.int (7 : Int32)), .val (.int (6 : Int32)), .val (.int (101 : Int32))] [(.int (6 : Int32)), (.ref o0_)])) rfl rfl (hb hby d4_12) _ ?_
    show Steps p.tables e below (T32.setTop (mkF m 13 #[.val (.ref o0_), .val (.int (6 : Int32)), .val (.ref o1_), .val (.int (6 : Int32)), .val (.int (7 : Int32)), .val (.int (6 : Int32)), .val (.int (101 : Int32))] [(.int (100 : Int32))])) _
    refine XS.istore X32.here hx rfl (hb hby d4_13) rfl (l' := #[.val (.ref o0_), .val (.int (6 : Int32)), .val (.ref o1_), .val (.int (6 : Int32)), .val (.int (7 : Int32)), .val (.int (6 : Int32)), .val (.int (100 : Int32))]) rfl ?_
    show Steps p.tables e below (T32.setTop (mkF m 15 #[.val (.ref o0_), .val (.int (6 : Int32)), .val (.ref o1_), .val (.int (6 : Int32)), .val (.int (7 : Int32)), .val (.int (6 : Int32)), .val (.int (100 : Int32))] [])) _
    refine XS.iload X32.here hx rfl (hb hby d4_15) rfl ?_
    show Steps p.tables e below (T32.setTop (mkF m 17 #[.val (.ref o0_), .val (.int (6 : Int32)), .val (.ref o1_), .val (.int (6 : Int32)), .val (.int (7 : Int32)), .val (.int (6 : Int32)), .val (.int (100 : Int32))] [(.int (100 : Int32))])) _
    refine XS.sipush X32.here hx rfl (hb hby d4_17) ?_
    show Steps p.tables e below (T32.setTop (mkF m 20 #[.val (.ref o0_), .val (.int (6 : Int32)), .val (.ref o1_), .val (.int (6 : Int32)), .val (.int (7 : Int32)), .val (.int (6 : Int32)), .val (.int (100 : Int32))] [(.int (255 : Int32)), (.int (100 : Int32))])) _
    refine XS.icmpYes X32.here hx rfl (pc0 := 20) (pc' := 26) rfl (hb hby d4_20) rfl (flt (by decide : ¬ ((255 : Int32) < (100 : Int32)))).2.2.2 (by decide) (by decide) ?_
    show Steps p.tables e below (T32.setTop (mkF m 26 #[.val (.ref o0_), .val (.int (6 : Int32)), .val (.ref o1_), .val (.int (6 : Int32)), .val (.int (7 : Int32)), .val (.int (6 : Int32)), .val (.int (100 : Int32))] [])) _
    refine XS.aloadN X32.here hx rfl (hb hby d4_26) rfl rfl ?_
    show Steps p.tables e below (T32.setTop (mkF m 27 #[.val (.ref o0_), .val (.int (6 : Int32)), .val (.ref o1_), .val (.int (6 : Int32)), .val (.int (7 : Int32)), .val (.int (6 : Int32)), .val (.int (100 : Int32))] [(.ref o1_)])) _
    refine XS.iloadN X32.here hx rfl (hb hby d4_27) rfl ?_
    show Steps p.tables e below (T32.setTop (mkF m 28 #[.val (.ref o0_), .val (.int (6 : Int32)), .val (.ref o1_), .val (.int (6 : Int32)), .val (.int (7 : Int32)), .val (.int (6 : Int32)), .val (.int (100 : Int32))] [(.int (6 : Int32)), (.ref o1_)])) _
    refine XS.iload X32.here hx rfl (hb hby d4_28) rfl ?_
    show Steps p.tables e below (T32.setTop (mkF m 30 #[.val (.ref o0_), .val (.int (6 : Int32)), .val (.ref o1_), .val (.int (6 : Int32)), .val (.int (7 : Int32)), .val (.int (6 : Int32)), .val (.int (100 : Int32))] [(.int (100 : Int32)), (.int (6 : Int32)), (.ref o1_)])) _
    refine XS.i2b X32.here hx rfl (hb hby d4_30) rfl ?_
    show Steps p.tables e below (T32.setTop (mkF m 31 #[.val (.ref o0_), .val (.int (6 : Int32)), .val (.ref o1_), .val (.int (6 : Int32)), .val (.int (7 : Int32)), .val (.int (6 : Int32)), .val (.int (100 : Int32))] [(.int (100 : Int32)), (.int (6 : Int32)), (.ref o1_)])) _
    refine st38 _ ?_
    show Steps p.tables e below (T38.setTop (mkF m 32 #[.val (.ref o0_), .val (.int (6 : Int32)), .val (.ref o1_), .val (.int (6 : Int32)), .val (.int (7 : Int32)), .val (.int (6 : Int32)), .val (.int (100 : Int32))] [])) _
    refine XS.iinc X38.here hx rfl (hb hby d4_32) rfl (l' := #[.val (.ref o0_), .val (.int (7 : Int32)), .val (.ref o1_), .val (.int (6 : Int32)), .val (.int (7 : Int32)), .val (.int (6 : Int32)), .val (.int (100 : Int32))]) rfl ?_
    show Steps p.tables e below (T38.setTop (mkF m 35 #[.val (.ref o0_), .val (.int (7 : Int32)), .val (.ref o1_), .val (.int (6 : Int32)), .val (.int (7 : Int32)), .val (.int (6 : Int32)), .val (.int (100 : Int32))] [])) _
    refine XS.iinc X38.here hx rfl (hb hby d4_35) rfl (l' := #[.val (.ref o0_), .val (.int (7 : Int32)), .val (.ref o1_), .val (.int (7 : Int32)), .val (.int (7 : Int32)), .val (.int (6 : Int32)), .val (.int (100 : Int32))]) rfl ?_
    show Steps p.tables e below (T38.setTop (mkF m 38 #[.val (.ref o0_), .val (.int (7 : Int32)), .val (.ref o1_), .val (.int (7 : Int32)), .val (.int (7 : Int32)), .val (.int (6 : Int32)), .val (.int (100 : Int32))] [])) _
    refine XS.iinc X38.here hx rfl (hb hby d4_38) rfl (l' := #[.val (.ref o0_), .val (.int (7 : Int32)), .val (.ref o1_), .val (.int (7 : Int32)), .val (.int (7 : Int32)), .val (.int (7 : Int32)), .val (.int (100 : Int32))]) rfl ?_
    show Steps p.tables e below (T38.setTop (mkF m 41 #[.val (.ref o0_), .val (.int (7 : Int32)), .val (.ref o1_), .val (.int (7 : Int32)), .val (.int (7 : Int32)), .val (.int (7 : Int32)), .val (.int (100 : Int32))] [])) _
    refine XS.goto X38.here hx rfl (pc0 := 41) (pc' := 3) rfl (hb hby d4_41) (by decide) (by decide) ?_
    show Steps p.tables e below (T38.setTop (mkF m 3 #[.val (.ref o0_), .val (.int (7 : Int32)), .val (.ref o1_), .val (.int (7 : Int32)), .val (.int (7 : Int32)), .val (.int (7 : Int32)), .val (.int (100 : Int32))] [])) _
    refine XS.iload X38.here hx rfl (hb hby d4_3) rfl ?_
    show Steps p.tables e below (T38.setTop (mkF m 5 #[.val (.ref o0_), .val (.int (7 : Int32)), .val (.ref o1_), .val (.int (7 : Int32)), .val (.int (7 : Int32)), .val (.int (7 : Int32)), .val (.int (100 : Int32))] [(.int (7 : Int32))])) _
    refine XS.iload X38.here hx rfl (hb hby d4_5) rfl ?_
    show Steps p.tables e below (T38.setTop (mkF m 7 #[.val (.ref o0_), .val (.int (7 : Int32)), .val (.ref o1_), .val (.int (7 : Int32)), .val (.int (7 : Int32)), .val (.int (7 : Int32)), .val (.int (100 : Int32))] [(.int (7 : Int32)), (.int (7 : Int32))])) _
    refine XS.icmpYes X38.here hx rfl (pc0 := 7) (pc' := 44) rfl (hb hby d4_7) rfl (flt (by decide : ¬ ((7 : Int32) < (7 : Int32)))).2.1 (by decide) (by decide) ?_
    show Steps p.tables e below (T38.setTop (mkF m 44 #[.val (.ref o0_), .val (.int (7 : Int32)), .val (.ref o1_), .val (.int (7 : Int32)), .val (.int (7 : Int32)), .val (.int (7 : Int32)), .val (.int (100 : Int32))] [])) _
    refine XS.iload X38.here hx rfl (hb hby d4_44) rfl ?_
    exact kt
  have f44 : Keep h0 h2 [o1_] := K0.wr W2 (Or.inl (List.mem_of_getElem? (i := 0) rfl))
  have f45 : Keep h0 h8 [o1_] := f44.wr W8 (Or.inl (List.mem_of_getElem? (i := 0) rfl))
  have f46 : Keep h0 h14 [o1_] := f45.wr W14 (Or.inl (List.mem_of_getElem? (i := 0) rfl))
  have f47 : Keep h0 h20 [o1_] := f46.wr W20 (Or.inl (List.mem_of_getElem? (i := 0) rfl))
  have f48 : Keep h0 h26 [o1_] := f47.wr W26 (Or.inl (List.mem_of_getElem? (i := 0) rfl))
  have f49 : Keep h0 h32 [o1_] := f48.wr W32 (Or.inl (List.mem_of_getElem? (i := 0) rfl))
  have f50 : Keep h0 h38 [o1_] := f49.wr W38 (Or.inl (List.mem_of_getElem? (i := 0) rfl))
  have f51 : Exa Z h2 o1_ "[B" := P3.wr W2
  have f52 : Exa Z h8 o1_ "[B" := f51.wr W8
  have f53 : Exa Z h14 o1_ "[B" := f52.wr W14
  have f54 : Exa Z h20 o1_ "[B" := f53.wr W20
  have f55 : Exa Z h26 o1_ "[B" := f54.wr W26
  have f56 : Exa Z h32 o1_ "[B" := f55.wr W32
  have f57 : Exa Z h38 o1_ "[B" := f56.wr W38
  obtain ⟨fs, hr, hrun, hended, hW, hsame⟩ := X38.leave (v := some (.int (7 : Int32))) (fun h => by rw [Bd.returns] at h; cases h)
  refine ⟨_, _, pre42 _ (retOut X38 hx Bd.returns rfl (Or.inl ⟨rfl, Or.inl rfl, _, rfl⟩) (hb hby d4_46) hr), hrun, hended, _, _, rfl, ?_, ⟨_, rfl⟩, hW, hsame.mono (by decide) (by decide)⟩
  show Qcompress5 Z o0_ o1_ ko0_ ko1_ h0 n0 _ T38.heap _
  rw [e38]
  exact ⟨rfl, N39, f50, f41, f57⟩
theorem pd_0 : parseMethodDescriptor "([CI[BII)I" = some ⟨[(.array .char), .int, (.array .byte), .int, .int], some .int⟩ := by decide +kernel
theorem d3_12 : decode jdk_52_method_16_code 12 = .ok (.istore 4, 2) := by decide +kernel
theorem d3_14 : decode jdk_52_method_16_code 14 = .ok (.iload 4, 2) := by decide +kernel
theorem d3_16 : decode jdk_52_method_16_code 16 = .ok (.iload_n 2, 1) := by decide +kernel
theorem d3_17 : decode jdk_52_method_16_code 17 = .ok (.if_icmp .eq 40, 3) := by decide +kernel
theorem d3_57 : decode jdk_52_method_16_code 57 = .ok (.aload_n 3, 1) := by decide +kernel
theorem d3_58 : decode jdk_52_method_16_code 58 = .ok (.areturn, 1) := by decide +kernel
theorem efcompress4 (m : MethodId) (o0_ : Addr) : entryFrame m #[(.ref o0_), (.int (0 : Int32)), (.int (7 : Int32))] 6 = mkF m 0 #[.val (.ref o0_), .val (.int (0 : Int32)), .val (.int (7 : Int32)), .unset, .unset, .unset] [] := by first | (simp [entryFrame, mkF, argsToLocals, Value.category]; done) | rfl
def Qcompress4 (Z : State) (o0_ : Addr) (ko0_ : ClassId) (h0 : Heap) (n0 : Nat) (v : Option Value) (h : Heap) (L : List Loc) : Prop := ∃ k1 : ClassId, ∃ nb1 : Addr, v = some (.ref nb1) ∧ Fr n0 L ∧ Keep h0 h [] ∧ h0.size ≤ nb1 ∧ Arv Z h nb1 k1 .byte (7 : Int32) [(.int (103 : Int32)), (.int (114 : Int32)), (.int (97 : Int32)), (.int (110 : Int32)), (.int (116 : Int32)), (.int (101 : Int32)), (.int (100 : Int32))] (.int (0 : Int32)) ∧ Exa Z h nb1 "[B"
set_option maxRecDepth 65536 in
set_option maxHeartbeats 40000000 in
theorem rmcompress4 (l : Launch) (Z : State) (a0 : Array Value) (hw : ∀ d ∈ tables_1, d.before a0 Z = true) (ws : List Jvm.Cond) (o0_ : Addr) (ko0_ : ClassId) (h0 : Heap) (n0 : Nat) (O0 : Old Z n0 h0) (P0 : Arv Z h0 o0_ ko0_ .char (7 : Int32) [(.int (103 : Int32)), (.int (114 : Int32)), (.int (97 : Int32)), (.int (110 : Int32)), (.int (116 : Int32)), (.int (101 : Int32)), (.int (100 : Int32))] (.int (0 : Int32))) (P1 : Exa Z h0 o0_ "[C") :
    MetFree l (⟨"java/lang/StringUTF16", "compress", "([CII)[B"⟩ : MethodName) (head1 (Jvm.Cond.code (⟨"java/lang/StringUTF16", "compress", "([CII)[B"⟩ : MethodName) jdk_52_method_16_code 6 (some (.array .byte)) :: ws) ({ frames := 1, cells := 1, slots := 7, locals := 18 } : Room)) (fun a U => a = #[(.ref o0_), (.int (0 : Int32)), (.int (7 : Int32))] ∧ Z.Warmed39 U.vm ∧ U.heap = h0) (fun _ _ _ _ _ => True) (fun _ U o U' => ∃ v L, o = .returned v ∧ Qcompress4 Z o0_ ko0_ h0 n0 v U'.heap L ∧ FrameEnd U o U' L ({ frames := 1, cells := 1, slots := 7, locals := 18 } : Room).cells ({ frames := 1, cells := 1, slots := 7, locals := 18 } : Room).slots) := by
  refine MetFree.of_bodySF (plainFor_of_name pn_0) hisR ?_
  intro p e s m args below meth c s₁ Bd hml0 hP hK
  obtain ⟨rfl, hZ, hh⟩ := hP
  have hx := Bd.exec
  have hby := Bd.bytes
  have hml : c.maxLocals = 6 := hml0
  have hown : s.vm.findClass "java/lang/StringUTF16" = some m.cls := findClass_of_methodNamed Bd.named
  have hnm := (name_of_methodNamed Bd.named Bd.method).1
  have X0 : Stand p l e ({ frames := 1, cells := 1, slots := 7, locals := 18 } : Room) s m #[(.ref o0_), (.int (0 : Int32)), (.int (7 : Int32))] below meth c s₁ [] 0 0 := Stand.of_body Bd
  have e0 : s₁.heap = h0 := by rw [← hh, Bd.state]; rfl
  have N0 := Fr.nil n0
  have pre0 : ∀ t, Steps p.tables e below (s₁.setTop (mkF m 0 #[.val (.ref o0_), .val (.int (0 : Int32)), .val (.int (7 : Int32)), .unset, .unset, .unset] [])) t → Steps p.tables e below (s₁.setTop (entryFrame m #[(.ref o0_), (.int (0 : Int32)), (.int (7 : Int32))] 6)) t := fun t k => castTop (efcompress4 m o0_) k
  have K0 : Keep h0 h0 [] := Keep.refl _ _
  obtain ⟨T1, h1, k1, X1, e1, E1, A1, Z1, st1⟩ := newPE X0 hx hZ (hw _ (List.mem_of_getElem? (i := 23) rfl)) e0 (g := (mkF m 1 #[.val (.ref o0_), .val (.int (0 : Int32)), .val (.int (7 : Int32)), .unset, .unset, .unset] [(.int (7 : Int32))])) rfl (hb hby d3_1) rfl (by decide) (cap := 7) (by decide) (by decide) (by decide) (by decide) (ad := "[B") (by decide)
  obtain ⟨b1, g1⟩ : ∃ z, z = h0.size := ⟨_, rfl⟩
  rw [← g1] at A1 Z1 st1
  have ge2 : n0 ≤ b1 := Nat.le_trans (Nat.le_trans (Nat.le_of_eq O0.1.symm) O0.2.1) (Nat.le_of_eq g1.symm)
  have sz3 : h0.size ≤ b1 := Nat.le_trans K0.1 (Nat.le_of_eq g1.symm)
  have f4 : Arv Z h1 b1 k1 .byte (7 : Int32) [(.int (0 : Int32)), (.int (0 : Int32)), (.int (0 : Int32)), (.int (0 : Int32)), (.int (0 : Int32)), (.int (0 : Int32)), (.int (0 : Int32))] (.int (0 : Int32)) := (Arv.new A1 (by decide)).pad (pad_rep [] (.int (0 : Int32)) 7)
  have f6 : Arv Z h1 o0_ ko0_ .char (7 : Int32) [(.int (103 : Int32)), (.int (114 : Int32)), (.int (97 : Int32)), (.int (110 : Int32)), (.int (116 : Int32)), (.int (101 : Int32)), (.int (100 : Int32))] (.int (0 : Int32)) := P0.ext E1
  have f7 : Exa Z h1 o0_ "[C" := P1.ext E1
  have ne8 : o0_ ≠ b1 := Nat.ne_of_lt (Nat.lt_of_lt_of_le P0.lt (Nat.le_of_eq g1.symm))
  have f9 : Old Z n0 h1 := O0.ext E1
  obtain ⟨_, _, ⟨T5, L5, k5, n5⟩, -, X5, ⟨Lc5, hQ5, l5, y5, z5⟩, st5⟩ := Jvm.LawKit.callS X1 hx (y := (⟨"java/lang/StringUTF16", "compress", "([CI[BII)I"⟩ : MethodName)) hown (mvT hZ (hw _ (List.mem_of_getElem? (i := 24) rfl))) (mvT hZ (hw _ (List.mem_of_getElem? (i := 25) rfl))) (mvT hZ (hw _ (List.mem_of_getElem? (i := 21) rfl))) (mvT hZ (hw _ (List.mem_of_getElem? (i := 26) rfl))) (by decide) (backOf (W := 0) (rmcompress5 l Z a0 hw [] o0_ b1 ko0_ k1 h1 n0 f9 f6 f7 f4 Z1 ge2 ne8) hZ (hw _ (List.mem_of_getElem? (i := 26) rfl)) (hw _ (List.mem_of_getElem? (i := 21) rfl)) (by decide) (by decide)) (g := (mkF m 9 #[.val (.ref o0_), .val (.int (0 : Int32)), .val (.int (7 : Int32)), .val (.ref b1), .unset, .unset] [(.int (7 : Int32)), (.int (0 : Int32)), (.ref b1), (.int (0 : Int32)), (.ref o0_)])) rfl (by rw [hml]; rfl) (argsL := [(.ref o0_), (.int (0 : Int32)), (.ref b1), (.int (0 : Int32)), (.int (7 : Int32))]) (rest := []) (lenOf pd_0 rfl) rfl (by show 2 * 0 + _ ≤ _; exact Nat.le_of_eq rfl) (hb hby d3_9) (fun _ _ => ⟨rfl, e1, (by decide : 1 + 0 ≤ _), (by decide : 7 + 0 ≤ _)⟩)
  dsimp only [Pt.U, Pt.locs, Pt.cells, Pt.slots] at X5 l5 y5 z5 st5 hQ5
  subst l5 y5 z5
  obtain ⟨h5, e5⟩ : ∃ z, T5.heap = z := ⟨_, rfl⟩
  rw [e5] at hQ5
  obtain ⟨rfl, N5q, K5, g5_0, g5_1⟩ := hQ5
  have N10 := Fr.app N0 N5q
  have pre11 : ∀ t, Steps p.tables e below (T5.setTop (mkF m 58 #[.val (.ref o0_), .val (.int (0 : Int32)), .val (.int (7 : Int32)), .val (.ref b1), .val (.int (7 : Int32)), .unset] [(.ref b1)])) t → Steps p.tables e below (s₁.setTop (entryFrame m #[(.ref o0_), (.int (0 : Int32)), (.int (7 : Int32))] 6)) t := by
    intro t kt
    refine pre0 t ?_
    show Steps p.tables e below (s₁.setTop (mkF m 0 #[.val (.ref o0_), .val (.int (0 : Int32)), .val (.int (7 : Int32)), .unset, .unset, .unset] [])) _
    refine XS.iloadN X0.here hx rfl (hb hby d3_0) rfl ?_
    show Steps p.tables e below (s₁.setTop (mkF m 1 #[.val (.ref o0_), .val (.int (0 : Int32)), .val (.int (7 : Int32)), .unset, .unset, .unset] [(.int (7 : Int32))])) _
    refine st1 _ ?_
    show Steps p.tables e below (T1.setTop (mkF m 3 #[.val (.ref o0_), .val (.int (0 : Int32)), .val (.int (7 : Int32)), .unset, .unset, .unset] [(.ref b1)])) _
    refine XS.astoreN X1.here hx rfl (hb hby d3_3) rfl rfl (l' := #[.val (.ref o0_), .val (.int (0 : Int32)), .val (.int (7 : Int32)), .val (.ref b1), .unset, .unset]) rfl ?_
    show Steps p.tables e below (T1.setTop (mkF m 4 #[.val (.ref o0_), .val (.int (0 : Int32)), .val (.int (7 : Int32)), .val (.ref b1), .unset, .unset] [])) _
    refine XS.aloadN X1.here hx rfl (hb hby d3_4) rfl rfl ?_
    show Steps p.tables e below (T1.setTop (mkF m 5 #[.val (.ref o0_), .val (.int (0 : Int32)), .val (.int (7 : Int32)), .val (.ref b1), .unset, .unset] [(.ref o0_)])) _
    refine XS.iloadN X1.here hx rfl (hb hby d3_5) rfl ?_
    show Steps p.tables e below (T1.setTop (mkF m 6 #[.val (.ref o0_), .val (.int (0 : Int32)), .val (.int (7 : Int32)), .val (.ref b1), .unset, .unset] [(.int (0 : Int32)), (.ref o0_)])) _
    refine XS.aloadN X1.here hx rfl (hb hby d3_6) rfl rfl ?_
    show Steps p.tables e below (T1.setTop (mkF m 7 #[.val (.ref o0_), .val (.int (0 : Int32)), .val (.int (7 : Int32)), .val (.ref b1), .unset, .unset] [(.ref b1), (.int (0 : Int32)), (.ref o0_)])) _
    refine XS.iconst X1.here hx rfl (hb hby d3_7) ?_
    show Steps p.tables e below (T1.setTop (mkF m 8 #[.val (.ref o0_), .val (.int (0 : Int32)), .val (.int (7 : Int32)), .val (.ref b1), .unset, .unset] [(.int (0 : Int32)), (.ref b1), (.int (0 : Int32)), (.ref o0_)])) _
    refine XS.iloadN X1.here hx rfl (hb hby d3_8) rfl ?_
    show Steps p.tables e below (T1.setTop (mkF m 9 #[.val (.ref o0_), .val (.int (0 : Int32)), .val (.int (7 : Int32)), .val (.ref b1), .unset, .unset] [(.int (7 : Int32)), (.int (0 : Int32)), (.ref b1), (.int (0 : Int32)), (.ref o0_)])) _
    refine st5 _ ?_
    show Steps p.tables e below (T5.setTop (mkF m 12 #[.val (.ref o0_), .val (.int (0 : Int32)), .val (.int (7 : Int32)), .val (.ref b1), .unset, .unset] [(.int (7 : Int32))])) _
    refine XS.istore X5.here hx rfl (hb hby d3_12) rfl (l' := #[.val (.ref o0_), .val (.int (0 : Int32)), .val (.int (7 : Int32)), .val (.ref b1), .val (.int (7 : Int32)), .unset]) rfl ?_
    show Steps p.tables e below (T5.setTop (mkF m 14 #[.val (.ref o0_), .val (.int (0 : Int32)), .val (.int (7 : Int32)), .val (.ref b1), .val (.int (7 : Int32)), .unset] [])) _
    refine XS.iload X5.here hx rfl (hb hby d3_14) rfl ?_
    show Steps p.tables e below (T5.setTop (mkF m 16 #[.val (.ref o0_), .val (.int (0 : Int32)), .val (.int (7 : Int32)), .val (.ref b1), .val (.int (7 : Int32)), .unset] [(.int (7 : Int32))])) _
    refine XS.iloadN X5.here hx rfl (hb hby d3_16) rfl ?_
    show Steps p.tables e below (T5.setTop (mkF m 17 #[.val (.ref o0_), .val (.int (0 : Int32)), .val (.int (7 : Int32)), .val (.ref b1), .val (.int (7 : Int32)), .unset] [(.int (7 : Int32)), (.int (7 : Int32))])) _
    refine XS.icmpYes X5.here hx rfl (pc0 := 17) (pc' := 57) rfl (hb hby d3_17) rfl (teq (by decide : (7 : Int32) = (7 : Int32))).1 (by decide) (by decide) ?_
    show Steps p.tables e below (T5.setTop (mkF m 57 #[.val (.ref o0_), .val (.int (0 : Int32)), .val (.int (7 : Int32)), .val (.ref b1), .val (.int (7 : Int32)), .unset] [])) _
    refine XS.aloadN X5.here hx rfl (hb hby d3_57) rfl rfl ?_
    exact kt
  have f13 : Keep h0 h1 [] := K0.ext E1
  have f14 : Keep h0 h5 [] := f13.trans K5 (allS (Or.inr sz3) all0)
  obtain ⟨fs, hr, hrun, hended, hW, hsame⟩ := X5.leave (v := some (.ref b1)) (fun h => by rw [Bd.returns] at h; cases h)
  refine ⟨_, _, pre11 _ (retOut X5 hx Bd.returns rfl (Or.inr (Or.inr (Or.inr (Or.inr ⟨rfl, rfl, rfl⟩)))) (hb hby d3_58) hr), hrun, hended, _, _, rfl, ?_, ⟨_, rfl⟩, hW, hsame.mono (by decide) (by decide)⟩
  show Qcompress4 Z o0_ ko0_ h0 n0 _ T5.heap _
  rw [e5]
  exact ⟨k1, b1, rfl, N10, f14, sz3, g5_0, g5_1⟩
theorem pd_1 : parseMethodDescriptor "([CII)[B" = some ⟨[(.array .char), .int, .int], some (.array .byte)⟩ := by decide +kernel
theorem d2_39 : decode jdk_42_method_149_code 39 = .ok (.astore 5, 2) := by decide +kernel
theorem d2_41 : decode jdk_42_method_149_code 41 = .ok (.aload_n 0, 1) := by decide +kernel
theorem d2_42 : decode jdk_42_method_149_code 42 = .ok (.aload 5, 2) := by decide +kernel
theorem d2_44 : decode jdk_42_method_149_code 44 = .ok (.iload_n 3, 1) := by decide +kernel
theorem d2_45 : decode jdk_42_method_149_code 45 = .ok (.invokestatic 47, 3) := by decide +kernel
theorem d5_0 : decode jdk_52_method_15_code 0 = .ok (.iload_n 1, 1) := by decide +kernel
theorem d5_1 : decode jdk_52_method_15_code 1 = .ok (.aload_n 0, 1) := by decide +kernel
theorem d5_2 : decode jdk_52_method_15_code 2 = .ok (.arraylength, 1) := by decide +kernel
theorem d5_3 : decode jdk_52_method_15_code 3 = .ok (.isub, 1) := by decide +kernel
theorem d5_4 : decode jdk_52_method_15_code 4 = .ok (.bipush 31, 2) := by decide +kernel
theorem d5_6 : decode jdk_52_method_15_code 6 = .ok (.iushr, 1) := by decide +kernel
theorem d5_7 : decode jdk_52_method_15_code 7 = .ok (.i2b, 1) := by decide +kernel
theorem d5_8 : decode jdk_52_method_15_code 8 = .ok (.ireturn, 1) := by decide +kernel
theorem efcoderFromArrayLen6 (m : MethodId) (o0_ : Addr) : entryFrame m #[(.ref o0_), (.int (7 : Int32))] 2 = mkF m 0 #[.val (.ref o0_), .val (.int (7 : Int32))] [] := by first | (simp [entryFrame, mkF, argsToLocals, Value.category]; done) | rfl
def QcoderFromArrayLen6 (Z : State) (o0_ : Addr) (ko0_ : ClassId) (h0 : Heap) (n0 : Nat) (v : Option Value) (h : Heap) (L : List Loc) : Prop := v = some (.int (0 : Int32)) ∧ Fr n0 L ∧ h = h0
set_option maxRecDepth 65536 in
set_option maxHeartbeats 40000000 in
theorem rmcoderFromArrayLen6 (l : Launch) (Z : State) (a0 : Array Value) (hw : ∀ d ∈ tables_1, d.before a0 Z = true) (ws : List Jvm.Cond) (o0_ : Addr) (ko0_ : ClassId) (h0 : Heap) (n0 : Nat) (O0 : Old Z n0 h0) (P0 : Arv Z h0 o0_ ko0_ .byte (7 : Int32) [(.int (103 : Int32)), (.int (114 : Int32)), (.int (97 : Int32)), (.int (110 : Int32)), (.int (116 : Int32)), (.int (101 : Int32)), (.int (100 : Int32))] (.int (0 : Int32))) (P1 : Exa Z h0 o0_ "[B") :
    MetFree l (⟨"java/lang/StringUTF16", "coderFromArrayLen", "([BI)B"⟩ : MethodName) (head1 (Jvm.Cond.code (⟨"java/lang/StringUTF16", "coderFromArrayLen", "([BI)B"⟩ : MethodName) jdk_52_method_15_code 2 (some .byte) :: ws) ({ frames := 0, cells := 0, slots := 0, locals := 0 } : Room)) (fun a U => a = #[(.ref o0_), (.int (7 : Int32))] ∧ Z.Warmed39 U.vm ∧ U.heap = h0) (fun _ _ _ _ _ => True) (fun _ U o U' => ∃ v L, o = .returned v ∧ QcoderFromArrayLen6 Z o0_ ko0_ h0 n0 v U'.heap L ∧ FrameEnd U o U' L ({ frames := 0, cells := 0, slots := 0, locals := 0 } : Room).cells ({ frames := 0, cells := 0, slots := 0, locals := 0 } : Room).slots) := by
  refine MetFree.of_bodySF (plainFor_of_name pn_0) hisR ?_
  intro p e s m args below meth c s₁ Bd hml0 hP hK
  obtain ⟨rfl, hZ, hh⟩ := hP
  have hx := Bd.exec
  have hby := Bd.bytes
  have hml : c.maxLocals = 2 := hml0
  have hown : s.vm.findClass "java/lang/StringUTF16" = some m.cls := findClass_of_methodNamed Bd.named
  have hnm := (name_of_methodNamed Bd.named Bd.method).1
  have X0 : Stand p l e ({ frames := 0, cells := 0, slots := 0, locals := 0 } : Room) s m #[(.ref o0_), (.int (7 : Int32))] below meth c s₁ [] 0 0 := Stand.of_body Bd
  have e0 : s₁.heap = h0 := by rw [← hh, Bd.state]; rfl
  have N0 := Fr.nil n0
  have pre0 : ∀ t, Steps p.tables e below (s₁.setTop (mkF m 0 #[.val (.ref o0_), .val (.int (7 : Int32))] [])) t → Steps p.tables e below (s₁.setTop (entryFrame m #[(.ref o0_), (.int (7 : Int32))] 2)) t := fun t k => castTop (efcoderFromArrayLen6 m o0_) k
  have K0 : Keep h0 h0 [] := Keep.refl _ _
  obtain ⟨c1, r1, q1, s1, z1, y1, G1⟩ := id P0
  have pre2 : ∀ t, Steps p.tables e below (s₁.setTop (mkF m 8 #[.val (.ref o0_), .val (.int (7 : Int32))] [(.int (0 : Int32))])) t → Steps p.tables e below (s₁.setTop (entryFrame m #[(.ref o0_), (.int (7 : Int32))] 2)) t := by
    intro t kt
    refine pre0 t ?_
    show Steps p.tables e below (s₁.setTop (mkF m 0 #[.val (.ref o0_), .val (.int (7 : Int32))] [])) _
    refine XS.iloadN X0.here hx rfl (hb hby d5_0) rfl ?_
    show Steps p.tables e below (s₁.setTop (mkF m 1 #[.val (.ref o0_), .val (.int (7 : Int32))] [(.int (7 : Int32))])) _
    refine XS.aloadN X0.here hx rfl (hb hby d5_1) rfl rfl ?_
    show Steps p.tables e below (s₁.setTop (mkF m 2 #[.val (.ref o0_), .val (.int (7 : Int32))] [(.ref o0_), (.int (7 : Int32))])) _
    refine X0.arraylength hx (by rw [e0]; exact r1.1) (State.isArrayOf_alike hZ.alike r1.2.1) (g := (mkF m 2 #[.val (.ref o0_), .val (.int (7 : Int32))] [(.ref o0_), (.int (7 : Int32))])) rfl rfl (hb hby d5_2) _ ?_
    rw [len_of s1 z1]
    show Steps p.tables e below (s₁.setTop (mkF m 3 #[.val (.ref o0_), .val (.int (7 : Int32))] [(.int (7 : Int32)), (.int (7 : Int32))])) _
    refine XS.isub X0.here hx rfl (hb hby d5_3) rfl ?_
    show Steps p.tables e below (s₁.setTop (mkF m 4 #[.val (.ref o0_), .val (.int (7 : Int32))] [(.int (0 : Int32))])) _
    refine XS.bipush X0.here hx rfl (hb hby d5_4) ?_
    show Steps p.tables e below (s₁.setTop (mkF m 6 #[.val (.ref o0_), .val (.int (7 : Int32))] [(.int (31 : Int32)), (.int (0 : Int32))])) _
    refine XS.iushr X0.here hx rfl (hb hby d5_6) rfl ?_
    show Steps p.tables e below (s₁.setTop (mkF m 7 #[.val (.ref o0_), .val (.int (7 : Int32))] [(.int (0 : Int32))])) _
    refine XS.i2b X0.here hx rfl (hb hby d5_7) rfl ?_
    exact kt
  obtain ⟨fs, hr, hrun, hended, hW, hsame⟩ := X0.leave (v := some (.int (0 : Int32))) (fun h => by rw [Bd.returns] at h; cases h)
  refine ⟨_, _, pre2 _ (retN X0 hx (t := .byte) Bd.returns (by simp) (hb hby d5_8) hr), hrun, hended, _, _, rfl, ?_, ⟨_, rfl⟩, hW, hsame.mono (by decide) (by decide)⟩
  show QcoderFromArrayLen6 Z o0_ ko0_ h0 n0 _ s₁.heap _
  rw [e0]
  exact ⟨rfl, N0, rfl⟩
theorem pd_2 : parseMethodDescriptor "([BI)B" = some ⟨[(.array .byte), .int], some .byte⟩ := by decide +kernel
theorem d2_48 : decode jdk_42_method_149_code 48 = .ok (.putfield 15, 3) := by decide +kernel
theorem d2_51 : decode jdk_42_method_149_code 51 = .ok (.aload_n 0, 1) := by decide +kernel
theorem d2_52 : decode jdk_42_method_149_code 52 = .ok (.aload 5, 2) := by decide +kernel
theorem d2_54 : decode jdk_42_method_149_code 54 = .ok (.putfield 9, 3) := by decide +kernel
theorem d2_57 : decode jdk_42_method_149_code 57 = .ok (.return_, 1) := by decide +kernel
theorem pn_1 : plainName "java/lang/String" = true := by first | (simp [plainName, overriddenIn]; done) | decide +kernel
theorem efinit3 (m : MethodId) (o0_ : Addr) (o1_ : Addr) : entryFrame m #[(.ref o0_), (.ref o1_), (.int (0 : Int32)), (.int (7 : Int32)), .null] 6 = mkF m 0 #[.val (.ref o0_), .val (.ref o1_), .val (.int (0 : Int32)), .val (.int (7 : Int32)), .val .null, .unset] [] := by first | (simp [entryFrame, mkF, argsToLocals, Value.category]; done) | rfl
def Qinit3 (Z : State) (o0_ : Addr) (o1_ : Addr) (ko1_ : ClassId) (x0_ : Int32) (h0 : Heap) (n0 : Nat) (v : Option Value) (h : Heap) (L : List Loc) : Prop := ∃ k1_3 : ClassId, ∃ nnb1_3 : Addr, v = none ∧ Fr n0 L ∧ Keep h0 h [o0_] ∧ h0.size ≤ nnb1_3 ∧ Exa Z h o0_ "java/lang/String" ∧ Fld Z h o0_ "java/lang/String" "coder" "B" (.int (0 : Int32)) ∧ Fld Z h o0_ "java/lang/String" "value" "[B" (.ref nnb1_3) ∧ Arv Z h nnb1_3 k1_3 .byte (7 : Int32) [(.int (103 : Int32)), (.int (114 : Int32)), (.int (97 : Int32)), (.int (110 : Int32)), (.int (116 : Int32)), (.int (101 : Int32)), (.int (100 : Int32))] (.int (0 : Int32)) ∧ Exa Z h nnb1_3 "[B"
set_option maxRecDepth 65536 in
set_option maxHeartbeats 40000000 in
theorem rminit3 (l : Launch) (Z : State) (a0 : Array Value) (hw : ∀ d ∈ tables_1, d.before a0 Z = true) (ws : List Jvm.Cond) (o0_ : Addr) (o1_ : Addr) (ko1_ : ClassId) (x0_ : Int32) (h0 : Heap) (n0 : Nat) (O0 : Old Z n0 h0) (P0 : Exa Z h0 o0_ "java/lang/String") (P1 : Fld Z h0 o0_ "java/lang/String" "coder" "B" (.int (0 : Int32))) (P2 : Fld Z h0 o0_ "java/lang/String" "value" "[B" .null) (P3 : Arv Z h0 o1_ ko1_ .char (7 : Int32) [(.int (103 : Int32)), (.int (114 : Int32)), (.int (97 : Int32)), (.int (110 : Int32)), (.int (116 : Int32)), (.int (101 : Int32)), (.int (100 : Int32))] (.int (0 : Int32))) (P4 : Exa Z h0 o1_ "[C") (P5 : ¬ (x0_ = (0 : Int32))) (P6 : Sta Z Z.heap "java/lang/String" "COMPACT_STRINGS" "Z" (.int x0_)) (P7 : n0 ≤ o0_) :
    MetFree l (⟨"java/lang/String", "<init>", "([CIILjava/lang/Void;)V"⟩ : MethodName) (head1 (Jvm.Cond.code (⟨"java/lang/String", "<init>", "([CIILjava/lang/Void;)V"⟩ : MethodName) jdk_42_method_149_code 6 none :: ws) ({ frames := 2, cells := 1, slots := 7, locals := 35 } : Room)) (fun a U => a = #[(.ref o0_), (.ref o1_), (.int (0 : Int32)), (.int (7 : Int32)), .null] ∧ Z.Warmed39 U.vm ∧ U.heap = h0) (fun _ _ _ _ _ => True) (fun _ U o U' => ∃ v L, o = .returned v ∧ Qinit3 Z o0_ o1_ ko1_ x0_ h0 n0 v U'.heap L ∧ FrameEnd U o U' L ({ frames := 2, cells := 1, slots := 7, locals := 35 } : Room).cells ({ frames := 2, cells := 1, slots := 7, locals := 35 } : Room).slots) := by
  refine MetFree.of_bodySF (plainFor_of_name pn_1) hisR ?_
  intro p e s m args below meth c s₁ Bd hml0 hP hK
  obtain ⟨rfl, hZ, hh⟩ := hP
  have hx := Bd.exec
  have hby := Bd.bytes
  have hml : c.maxLocals = 6 := hml0
  have hown : s.vm.findClass "java/lang/String" = some m.cls := findClass_of_methodNamed Bd.named
  have hnm := (name_of_methodNamed Bd.named Bd.method).1
  have X0 : Stand p l e ({ frames := 2, cells := 1, slots := 7, locals := 35 } : Room) s m #[(.ref o0_), (.ref o1_), (.int (0 : Int32)), (.int (7 : Int32)), .null] below meth c s₁ [] 0 0 := Stand.of_body Bd
  have e0 : s₁.heap = h0 := by rw [← hh, Bd.state]; rfl
  have N0 := Fr.nil n0
  have pre0 : ∀ t, Steps p.tables e below (s₁.setTop (mkF m 0 #[.val (.ref o0_), .val (.ref o1_), .val (.int (0 : Int32)), .val (.int (7 : Int32)), .val .null, .unset] [])) t → Steps p.tables e below (s₁.setTop (entryFrame m #[(.ref o0_), (.ref o1_), (.int (0 : Int32)), (.int (7 : Int32)), .null] 6)) t := fun t k => castTop (efinit3 m o0_ o1_) k
  have K0 : Keep h0 h0 [o0_] := Keep.refl _ _
  obtain ⟨T1, X1, e1, st1⟩ := initO X0 hx hZ hown (hw _ (List.mem_of_getElem? (i := 15) rfl)) (hw _ (List.mem_of_getElem? (i := 16) rfl)) (hw _ (List.mem_of_getElem? (i := 17) rfl)) e0 (g := (mkF m 1 #[.val (.ref o0_), .val (.ref o1_), .val (.int (0 : Int32)), .val (.int (7 : Int32)), .val .null, .unset] [(.ref o0_)])) rfl (by rw [hml]; rfl) rfl (hb hby d2_1) (by decide) (W := 0) (by show 2 * 0 + _ ≤ _; exact Nat.le_of_eq rfl) (by decide)
  obtain ⟨T2, X2, e2, st2⟩ := getS2 X1 hx hZ hown (host := "") (Or.inl (hw _ (List.mem_of_getElem? (i := 18) rfl))) Via.refl e1 (P6.ext O0.2) (g := (mkF m 27 #[.val (.ref o0_), .val (.ref o1_), .val (.int (0 : Int32)), .val (.int (7 : Int32)), .val .null, .unset] [])) rfl (hb hby d2_27)
  obtain ⟨_, _, ⟨T3, L3, k3, n3⟩, -, X3, ⟨Lc3, hQ3, l3, y3, z3⟩, st3⟩ := Jvm.LawKit.callS X2 hx (y := (⟨"java/lang/StringUTF16", "compress", "([CII)[B"⟩ : MethodName)) hown (mvT hZ (hw _ (List.mem_of_getElem? (i := 19) rfl))) (mvT hZ (hw _ (List.mem_of_getElem? (i := 20) rfl))) (mvT hZ (hw _ (List.mem_of_getElem? (i := 21) rfl))) (mvT hZ (hw _ (List.mem_of_getElem? (i := 22) rfl))) (by decide) (backOf (W := 0) (rmcompress4 l Z a0 hw [] o1_ ko1_ h0 n0 O0 P3 P4) hZ (hw _ (List.mem_of_getElem? (i := 22) rfl)) (hw _ (List.mem_of_getElem? (i := 21) rfl)) (by decide) (by decide)) (g := (mkF m 36 #[.val (.ref o0_), .val (.ref o1_), .val (.int (0 : Int32)), .val (.int (7 : Int32)), .val .null, .unset] [(.int (7 : Int32)), (.int (0 : Int32)), (.ref o1_)])) rfl (by rw [hml]; rfl) (argsL := [(.ref o1_), (.int (0 : Int32)), (.int (7 : Int32))]) (rest := []) (lenOf pd_1 rfl) rfl (by show 2 * 0 + _ ≤ _; exact Nat.le_of_eq rfl) (hb hby d2_36) (fun _ _ => ⟨rfl, e2, (by decide : 0 + 1 ≤ _), (by decide : 0 + 7 ≤ _)⟩)
  dsimp only [Pt.U, Pt.locs, Pt.cells, Pt.slots] at X3 l3 y3 z3 st3 hQ3
  subst l3 y3 z3
  obtain ⟨h3, e3⟩ : ∃ z, T3.heap = z := ⟨_, rfl⟩
  rw [e3] at hQ3
  obtain ⟨k1_3, nb1_3, rfl, N3q, K3, sznb1_3, g3_0, g3_1⟩ := hQ3
  have N4 := Fr.app N0 N3q
  have ge5 : n0 ≤ nb1_3 := Nat.le_trans (Nat.le_trans (Nat.le_of_eq O0.1.symm) O0.2.1) sznb1_3
  have sz6 : h0.size ≤ nb1_3 := Nat.le_trans K0.1 sznb1_3
  have f8 : Old Z n0 h3 := O0.keep K3 all0
  obtain ⟨_, _, ⟨T7, L7, k7, n7⟩, -, X7, ⟨Lc7, hQ7, l7, y7, z7⟩, st7⟩ := Jvm.LawKit.callS X3 hx (y := (⟨"java/lang/StringUTF16", "coderFromArrayLen", "([BI)B"⟩ : MethodName)) hown (mvT hZ (hw _ (List.mem_of_getElem? (i := 27) rfl))) (mvT hZ (hw _ (List.mem_of_getElem? (i := 28) rfl))) (mvT hZ (hw _ (List.mem_of_getElem? (i := 21) rfl))) (mvT hZ (hw _ (List.mem_of_getElem? (i := 29) rfl))) (by decide) (backOf (W := 1) (rmcoderFromArrayLen6 l Z a0 hw [] nb1_3 k1_3 h3 n0 f8 g3_0 g3_1) hZ (hw _ (List.mem_of_getElem? (i := 29) rfl)) (hw _ (List.mem_of_getElem? (i := 21) rfl)) (by decide) (by decide)) (g := (mkF m 45 #[.val (.ref o0_), .val (.ref o1_), .val (.int (0 : Int32)), .val (.int (7 : Int32)), .val .null, .val (.ref nb1_3)] [(.int (7 : Int32)), (.ref nb1_3), (.ref o0_)])) rfl (by rw [hml]; rfl) (argsL := [(.ref nb1_3), (.int (7 : Int32))]) (rest := [(.ref o0_)]) (lenOf pd_2 rfl) rfl (by show 2 * 0 + _ ≤ _; exact Nat.le_of_eq rfl) (hb hby d2_45) (fun _ _ => ⟨rfl, e3, (by decide : 1 + 0 ≤ _), (by decide : 7 + 0 ≤ _)⟩)
  dsimp only [Pt.U, Pt.locs, Pt.cells, Pt.slots] at X7 l7 y7 z7 st7 hQ7
  subst l7 y7 z7
  obtain ⟨h7, e7⟩ : ∃ z, T7.heap = z := ⟨_, rfl⟩
  rw [e7] at hQ7
  obtain ⟨rfl, N7q, hh7⟩ := hQ7
  have N9 := Fr.app N4 N7q
  have e7' : T7.heap = h3 := e7.trans hh7
  have f10 : Fld Z h3 o0_ "java/lang/String" "coder" "B" (.int (0 : Int32)) := P1.keep K3 nin0
  have f11 : Exa Z h3 o0_ "java/lang/String" := P0.keep K3
  obtain ⟨T12, h12, X12, e12, W12, st12⟩ := putF X7 hx hZ hown (host := "") (Or.inl (hw _ (List.mem_of_getElem? (i := 30) rfl))) Via.refl e7' f10 f11 (Or.inr ⟨(hw _ (List.mem_of_getElem? (i := 31) rfl)), rfl, hnm⟩) (hw _ (List.mem_of_getElem? (i := 6) rfl)) (ty := .byte) (by decide) rfl rfl (g := (mkF m 48 #[.val (.ref o0_), .val (.ref o1_), .val (.int (0 : Int32)), .val (.int (7 : Int32)), .val .null, .val (.ref nb1_3)] [(.int (0 : Int32)), (.ref o0_)])) rfl rfl (hb hby d2_48)
  have N13 := Fr.snoc X12 N9 P7
  have f14 : Fld Z h12 o0_ "java/lang/String" "coder" "B" (.int (0 : Int32)) := f10.same W12
  have f15 : Fld Z h3 o0_ "java/lang/String" "value" "[B" .null := P2.keep K3 nin0
  have f16 : Fld Z h12 o0_ "java/lang/String" "value" "[B" .null := f15.other W12 (Or.inr (slot_ne (Or.inr (hw _ (List.mem_of_getElem? (i := 33) rfl))) (Or.inr (hw _ (List.mem_of_getElem? (i := 31) rfl))) (by decide) (t := (.array .byte)) (t' := .byte) (by decide) (by decide)))
  have f17 : Exa Z h12 o0_ "java/lang/String" := f11.wr W12
  obtain ⟨T18, h18, X18, e18, W18, st18⟩ := putF X12 hx hZ hown (host := "") (Or.inl (hw _ (List.mem_of_getElem? (i := 32) rfl))) Via.refl e12 f16 f17 (Or.inr ⟨(hw _ (List.mem_of_getElem? (i := 33) rfl)), rfl, hnm⟩) (hw _ (List.mem_of_getElem? (i := 6) rfl)) (ty := (.array .byte)) (by decide) rfl rfl (g := (mkF m 54 #[.val (.ref o0_), .val (.ref o1_), .val (.int (0 : Int32)), .val (.int (7 : Int32)), .val .null, .val (.ref nb1_3)] [(.ref nb1_3), (.ref o0_)])) rfl rfl (hb hby d2_54)
  have N19 := Fr.snoc X18 N13 P7
  have f20 : Fld Z h18 o0_ "java/lang/String" "value" "[B" (.ref nb1_3) := f16.same W18
  have pre21 : ∀ t, Steps p.tables e below (T18.setTop (mkF m 57 #[.val (.ref o0_), .val (.ref o1_), .val (.int (0 : Int32)), .val (.int (7 : Int32)), .val .null, .val (.ref nb1_3)] [])) t → Steps p.tables e below (s₁.setTop (entryFrame m #[(.ref o0_), (.ref o1_), (.int (0 : Int32)), (.int (7 : Int32)), .null] 6)) t := by
    intro t kt
    refine pre0 t ?_
    show Steps p.tables e below (s₁.setTop (mkF m 0 #[.val (.ref o0_), .val (.ref o1_), .val (.int (0 : Int32)), .val (.int (7 : Int32)), .val .null, .unset] [])) _
    refine XS.aloadN X0.here hx rfl (hb hby d2_0) rfl rfl ?_
    show Steps p.tables e below (s₁.setTop (mkF m 1 #[.val (.ref o0_), .val (.ref o1_), .val (.int (0 : Int32)), .val (.int (7 : Int32)), .val .null, .unset] [(.ref o0_)])) _
    refine st1 _ ?_
    show Steps p.tables e below (T1.setTop (mkF m 4 #[.val (.ref o0_), .val (.ref o1_), .val (.int (0 : Int32)), .val (.int (7 : Int32)), .val .null, .unset] [])) _
    refine XS.iloadN X1.here hx rfl (hb hby d2_4) rfl ?_
    show Steps p.tables e below (T1.setTop (mkF m 5 #[.val (.ref o0_), .val (.ref o1_), .val (.int (0 : Int32)), .val (.int (7 : Int32)), .val .null, .unset] [(.int (7 : Int32))])) _
    refine XS.ifYes X1.here hx rfl (pc0 := 5) (pc' := 27) rfl (hb hby d2_5) rfl ((if0 _ _).trans (feq (by decide : ¬ ((7 : Int32) = (0 : Int32)))).2) (by decide) (by decide) ?_
    show Steps p.tables e below (T1.setTop (mkF m 27 #[.val (.ref o0_), .val (.ref o1_), .val (.int (0 : Int32)), .val (.int (7 : Int32)), .val .null, .unset] [])) _
    refine st2 _ ?_
    show Steps p.tables e below (T2.setTop (mkF m 30 #[.val (.ref o0_), .val (.ref o1_), .val (.int (0 : Int32)), .val (.int (7 : Int32)), .val .null, .unset] [(.int x0_)])) _
    refine XS.ifNo X2.here hx rfl (hb hby d2_30) rfl ((if0 _ _).trans (feq P5).1) ?_
    show Steps p.tables e below (T2.setTop (mkF m 33 #[.val (.ref o0_), .val (.ref o1_), .val (.int (0 : Int32)), .val (.int (7 : Int32)), .val .null, .unset] [])) _
    refine XS.aloadN X2.here hx rfl (hb hby d2_33) rfl rfl ?_
    show Steps p.tables e below (T2.setTop (mkF m 34 #[.val (.ref o0_), .val (.ref o1_), .val (.int (0 : Int32)), .val (.int (7 : Int32)), .val .null, .unset] [(.ref o1_)])) _
    refine XS.iloadN X2.here hx rfl (hb hby d2_34) rfl ?_
    show Steps p.tables e below (T2.setTop (mkF m 35 #[.val (.ref o0_), .val (.ref o1_), .val (.int (0 : Int32)), .val (.int (7 : Int32)), .val .null, .unset] [(.int (0 : Int32)), (.ref o1_)])) _
    refine XS.iloadN X2.here hx rfl (hb hby d2_35) rfl ?_
    show Steps p.tables e below (T2.setTop (mkF m 36 #[.val (.ref o0_), .val (.ref o1_), .val (.int (0 : Int32)), .val (.int (7 : Int32)), .val .null, .unset] [(.int (7 : Int32)), (.int (0 : Int32)), (.ref o1_)])) _
    refine st3 _ ?_
    show Steps p.tables e below (T3.setTop (mkF m 39 #[.val (.ref o0_), .val (.ref o1_), .val (.int (0 : Int32)), .val (.int (7 : Int32)), .val .null, .unset] [(.ref nb1_3)])) _
    refine XS.astore X3.here hx rfl (hb hby d2_39) rfl rfl (l' := #[.val (.ref o0_), .val (.ref o1_), .val (.int (0 : Int32)), .val (.int (7 : Int32)), .val .null, .val (.ref nb1_3)]) rfl ?_
    show Steps p.tables e below (T3.setTop (mkF m 41 #[.val (.ref o0_), .val (.ref o1_), .val (.int (0 : Int32)), .val (.int (7 : Int32)), .val .null, .val (.ref nb1_3)] [])) _
    refine XS.aloadN X3.here hx rfl (hb hby d2_41) rfl rfl ?_
    show Steps p.tables e below (T3.setTop (mkF m 42 #[.val (.ref o0_), .val (.ref o1_), .val (.int (0 : Int32)), .val (.int (7 : Int32)), .val .null, .val (.ref nb1_3)] [(.ref o0_)])) _
    refine XS.aload X3.here hx rfl (hb hby d2_42) rfl rfl ?_
    show Steps p.tables e below (T3.setTop (mkF m 44 #[.val (.ref o0_), .val (.ref o1_), .val (.int (0 : Int32)), .val (.int (7 : Int32)), .val .null, .val (.ref nb1_3)] [(.ref nb1_3), (.ref o0_)])) _
    refine XS.iloadN X3.here hx rfl (hb hby d2_44) rfl ?_
    show Steps p.tables e below (T3.setTop (mkF m 45 #[.val (.ref o0_), .val (.ref o1_), .val (.int (0 : Int32)), .val (.int (7 : Int32)), .val .null, .val (.ref nb1_3)] [(.int (7 : Int32)), (.ref nb1_3), (.ref o0_)])) _
    refine st7 _ ?_
    show Steps p.tables e below (T7.setTop (mkF m 48 #[.val (.ref o0_), .val (.ref o1_), .val (.int (0 : Int32)), .val (.int (7 : Int32)), .val .null, .val (.ref nb1_3)] [(.int (0 : Int32)), (.ref o0_)])) _
    refine st12 _ ?_
    show Steps p.tables e below (T12.setTop (mkF m 51 #[.val (.ref o0_), .val (.ref o1_), .val (.int (0 : Int32)), .val (.int (7 : Int32)), .val .null, .val (.ref nb1_3)] [])) _
    refine XS.aloadN X12.here hx rfl (hb hby d2_51) rfl rfl ?_
    show Steps p.tables e below (T12.setTop (mkF m 52 #[.val (.ref o0_), .val (.ref o1_), .val (.int (0 : Int32)), .val (.int (7 : Int32)), .val .null, .val (.ref nb1_3)] [(.ref o0_)])) _
    refine XS.aload X12.here hx rfl (hb hby d2_52) rfl rfl ?_
    show Steps p.tables e below (T12.setTop (mkF m 54 #[.val (.ref o0_), .val (.ref o1_), .val (.int (0 : Int32)), .val (.int (7 : Int32)), .val .null, .val (.ref nb1_3)] [(.ref nb1_3), (.ref o0_)])) _
    refine st18 _ ?_
    exact kt
  have f23 : Keep h0 h3 [o0_] := K0.trans K3 all0
  have f24 : Keep h0 h12 [o0_] := f23.wr W12 (Or.inl (List.mem_of_getElem? (i := 0) rfl))
  have f25 : Keep h0 h18 [o0_] := f24.wr W18 (Or.inl (List.mem_of_getElem? (i := 0) rfl))
  have f26 : Exa Z h18 o0_ "java/lang/String" := f17.wr W18
  have f27 : Fld Z h18 o0_ "java/lang/String" "coder" "B" (.int (0 : Int32)) := f14.other W18 (Or.inr (slot_ne (Or.inr (hw _ (List.mem_of_getElem? (i := 31) rfl))) (Or.inr (hw _ (List.mem_of_getElem? (i := 33) rfl))) (by decide) (t := .byte) (t' := (.array .byte)) (by decide) (by decide)))
  have ne29 : o0_ ≠ nb1_3 := Nat.ne_of_lt (Nat.lt_of_lt_of_le P0.lt sznb1_3)
  have f28 : Arv Z h12 nb1_3 k1_3 .byte (7 : Int32) [(.int (103 : Int32)), (.int (114 : Int32)), (.int (97 : Int32)), (.int (110 : Int32)), (.int (116 : Int32)), (.int (101 : Int32)), (.int (100 : Int32))] (.int (0 : Int32)) := g3_0.other W12 (Ne.symm ne29)
  have f30 : Arv Z h18 nb1_3 k1_3 .byte (7 : Int32) [(.int (103 : Int32)), (.int (114 : Int32)), (.int (97 : Int32)), (.int (110 : Int32)), (.int (116 : Int32)), (.int (101 : Int32)), (.int (100 : Int32))] (.int (0 : Int32)) := f28.other W18 (Ne.symm ne29)
  have f31 : Exa Z h12 nb1_3 "[B" := g3_1.wr W12
  have f32 : Exa Z h18 nb1_3 "[B" := f31.wr W18
  obtain ⟨fs, hr, hrun, hended, hW, hsame⟩ := X18.leave (v := none) (fun _ => rfl)
  refine ⟨_, _, pre21 _ (X18.returnOut hx Bd.returns (hb hby d2_57) hr), hrun, hended, _, _, rfl, ?_, ⟨_, rfl⟩, hW, hsame.mono (by decide) (by decide)⟩
  show Qinit3 Z o0_ o1_ ko1_ x0_ h0 n0 _ T18.heap _
  rw [e18]
  exact ⟨k1_3, nb1_3, rfl, N19, f25, sz6, f26, f27, f20, f30, f32⟩
theorem pd_3 : parseMethodDescriptor "([CIILjava/lang/Void;)V" = some ⟨[(.array .char), .int, .int, (.object "java/lang/Void")], none⟩ := by decide +kernel
theorem d1_9 : decode jdk_42_method_3_code 9 = .ok (.return_, 1) := by decide +kernel
theorem efinit1 (m : MethodId) (o0_ : Addr) (o1_ : Addr) : entryFrame m #[(.ref o0_), (.ref o1_)] 2 = mkF m 0 #[.val (.ref o0_), .val (.ref o1_)] [] := by first | (simp [entryFrame, mkF, argsToLocals, Value.category]; done) | rfl
def Qinit1 (Z : State) (o0_ : Addr) (o1_ : Addr) (ko1_ : ClassId) (x0_ : Int32) (h0 : Heap) (n0 : Nat) (v : Option Value) (h : Heap) (L : List Loc) : Prop := ∃ k1_3_2 : ClassId, ∃ nnnb1_3_2 : Addr, v = none ∧ Fr n0 L ∧ Keep h0 h [o0_] ∧ h0.size ≤ nnnb1_3_2 ∧ Exa Z h o0_ "java/lang/String" ∧ Fld Z h o0_ "java/lang/String" "coder" "B" (.int (0 : Int32)) ∧ Fld Z h o0_ "java/lang/String" "value" "[B" (.ref nnnb1_3_2) ∧ Arv Z h nnnb1_3_2 k1_3_2 .byte (7 : Int32) [(.int (103 : Int32)), (.int (114 : Int32)), (.int (97 : Int32)), (.int (110 : Int32)), (.int (116 : Int32)), (.int (101 : Int32)), (.int (100 : Int32))] (.int (0 : Int32)) ∧ Exa Z h nnnb1_3_2 "[B"
set_option maxRecDepth 65536 in
set_option maxHeartbeats 40000000 in
theorem rminit1 (l : Launch) (Z : State) (a0 : Array Value) (hw : ∀ d ∈ tables_1, d.before a0 Z = true) (ws : List Jvm.Cond) (o0_ : Addr) (o1_ : Addr) (ko1_ : ClassId) (x0_ : Int32) (h0 : Heap) (n0 : Nat) (O0 : Old Z n0 h0) (P0 : Exa Z h0 o0_ "java/lang/String") (P1 : Fld Z h0 o0_ "java/lang/String" "coder" "B" (.int (0 : Int32))) (P2 : Fld Z h0 o0_ "java/lang/String" "value" "[B" .null) (P3 : Arv Z h0 o1_ ko1_ .char (7 : Int32) [(.int (103 : Int32)), (.int (114 : Int32)), (.int (97 : Int32)), (.int (110 : Int32)), (.int (116 : Int32)), (.int (101 : Int32)), (.int (100 : Int32))] (.int (0 : Int32))) (P4 : Exa Z h0 o1_ "[C") (P5 : ¬ (x0_ = (0 : Int32))) (P6 : Sta Z Z.heap "java/lang/String" "COMPACT_STRINGS" "Z" (.int x0_)) (P7 : n0 ≤ o0_) :
    MetFree l (⟨"java/lang/String", "<init>", "([C)V"⟩ : MethodName) (head1 (Jvm.Cond.code (⟨"java/lang/String", "<init>", "([C)V"⟩ : MethodName) jdk_42_method_3_code 2 none :: ws) ({ frames := 3, cells := 1, slots := 7, locals := 52 } : Room)) (fun a U => a = #[(.ref o0_), (.ref o1_)] ∧ Z.Warmed39 U.vm ∧ U.heap = h0) (fun _ _ _ _ _ => True) (fun _ U o U' => ∃ v L, o = .returned v ∧ Qinit1 Z o0_ o1_ ko1_ x0_ h0 n0 v U'.heap L ∧ FrameEnd U o U' L ({ frames := 3, cells := 1, slots := 7, locals := 52 } : Room).cells ({ frames := 3, cells := 1, slots := 7, locals := 52 } : Room).slots) := by
  refine MetFree.of_bodySF (plainFor_of_name pn_1) hisR ?_
  intro p e s m args below meth c s₁ Bd hml0 hP hK
  obtain ⟨rfl, hZ, hh⟩ := hP
  have hx := Bd.exec
  have hby := Bd.bytes
  have hml : c.maxLocals = 2 := hml0
  have hown : s.vm.findClass "java/lang/String" = some m.cls := findClass_of_methodNamed Bd.named
  have hnm := (name_of_methodNamed Bd.named Bd.method).1
  have X0 : Stand p l e ({ frames := 3, cells := 1, slots := 7, locals := 52 } : Room) s m #[(.ref o0_), (.ref o1_)] below meth c s₁ [] 0 0 := Stand.of_body Bd
  have e0 : s₁.heap = h0 := by rw [← hh, Bd.state]; rfl
  have N0 := Fr.nil n0
  have pre0 : ∀ t, Steps p.tables e below (s₁.setTop (mkF m 0 #[.val (.ref o0_), .val (.ref o1_)] [])) t → Steps p.tables e below (s₁.setTop (entryFrame m #[(.ref o0_), (.ref o1_)] 2)) t := fun t k => castTop (efinit1 m o0_ o1_) k
  have K0 : Keep h0 h0 [o0_] := Keep.refl _ _
  obtain ⟨c1, r1, q1, s1, z1, y1, G1⟩ := id P3
  obtain ⟨_, _, ⟨T2, L2, k2, n2⟩, -, X2, ⟨Lc2, hQ2, l2, y2, z2⟩, st2⟩ := X0.specialBack hx (y := (⟨"java/lang/String", "<init>", "([CIILjava/lang/Void;)V"⟩ : MethodName)) rfl hown (mvT hZ (hw _ (List.mem_of_getElem? (i := 11) rfl))) (mvT hZ (hw _ (List.mem_of_getElem? (i := 12) rfl))) (mvT hZ (hw _ (List.mem_of_getElem? (i := 14) rfl))) (by decide) (backOf (W := 0) (rminit3 l Z a0 hw [] o0_ o1_ ko1_ x0_ h0 n0 O0 P0 P1 P2 P3 P4 P5 P6 P7) hZ (hw _ (List.mem_of_getElem? (i := 14) rfl)) (hw _ (List.mem_of_getElem? (i := 7) rfl)) (by decide) (by decide)) (g := (mkF m 6 #[.val (.ref o0_), .val (.ref o1_)] [.null, (.int (7 : Int32)), (.int (0 : Int32)), (.ref o1_), (.ref o0_)])) rfl (by rw [hml]; rfl) (Steps.refl _) (a := o0_) (argsL := [(.ref o1_), (.int (0 : Int32)), (.int (7 : Int32)), .null]) (rest := []) (lenOf pd_3 rfl) rfl (by show 2 * 0 + _ ≤ _; exact Nat.le_of_eq rfl) (hb hby d1_6) (fun _ _ => ⟨rfl, e0, (by decide : 0 + 1 ≤ _), (by decide : 0 + 7 ≤ _)⟩)
  dsimp only [Pt.U, Pt.locs, Pt.cells, Pt.slots] at X2 l2 y2 z2 st2 hQ2
  subst l2 y2 z2
  obtain ⟨h2, e2⟩ : ∃ z, T2.heap = z := ⟨_, rfl⟩
  rw [e2] at hQ2
  obtain ⟨k1_3_2, nnb1_3_2, rfl, N2q, K2, sznnb1_3_2, g2_0, g2_1, g2_2, g2_3, g2_4⟩ := hQ2
  have N3 := Fr.app N0 N2q
  have ge4 : n0 ≤ nnb1_3_2 := Nat.le_trans (Nat.le_trans (Nat.le_of_eq O0.1.symm) O0.2.1) sznnb1_3_2
  have sz5 : h0.size ≤ nnb1_3_2 := Nat.le_trans K0.1 sznnb1_3_2
  have pre6 : ∀ t, Steps p.tables e below (T2.setTop (mkF m 9 #[.val (.ref o0_), .val (.ref o1_)] [])) t → Steps p.tables e below (s₁.setTop (entryFrame m #[(.ref o0_), (.ref o1_)] 2)) t := by
    intro t kt
    refine pre0 t ?_
    show Steps p.tables e below (s₁.setTop (mkF m 0 #[.val (.ref o0_), .val (.ref o1_)] [])) _
    refine XS.aloadN X0.here hx rfl (hb hby d1_0) rfl rfl ?_
    show Steps p.tables e below (s₁.setTop (mkF m 1 #[.val (.ref o0_), .val (.ref o1_)] [(.ref o0_)])) _
    refine XS.aloadN X0.here hx rfl (hb hby d1_1) rfl rfl ?_
    show Steps p.tables e below (s₁.setTop (mkF m 2 #[.val (.ref o0_), .val (.ref o1_)] [(.ref o1_), (.ref o0_)])) _
    refine XS.iconst X0.here hx rfl (hb hby d1_2) ?_
    show Steps p.tables e below (s₁.setTop (mkF m 3 #[.val (.ref o0_), .val (.ref o1_)] [(.int (0 : Int32)), (.ref o1_), (.ref o0_)])) _
    refine XS.aloadN X0.here hx rfl (hb hby d1_3) rfl rfl ?_
    show Steps p.tables e below (s₁.setTop (mkF m 4 #[.val (.ref o0_), .val (.ref o1_)] [(.ref o1_), (.int (0 : Int32)), (.ref o1_), (.ref o0_)])) _
    refine X0.arraylength hx (by rw [e0]; exact r1.1) (State.isArrayOf_alike hZ.alike r1.2.1) (g := (mkF m 4 #[.val (.ref o0_), .val (.ref o1_)] [(.ref o1_), (.int (0 : Int32)), (.ref o1_), (.ref o0_)])) rfl rfl (hb hby d1_4) _ ?_
    rw [len_of s1 z1]
    show Steps p.tables e below (s₁.setTop (mkF m 5 #[.val (.ref o0_), .val (.ref o1_)] [(.int (7 : Int32)), (.int (0 : Int32)), (.ref o1_), (.ref o0_)])) _
    refine XS.aconstNull X0.here hx rfl (hb hby d1_5) ?_
    show Steps p.tables e below (s₁.setTop (mkF m 6 #[.val (.ref o0_), .val (.ref o1_)] [.null, (.int (7 : Int32)), (.int (0 : Int32)), (.ref o1_), (.ref o0_)])) _
    refine st2.trans ?_
    exact kt
  have f8 : Keep h0 h2 [o0_] := K0.trans K2 (allS (Or.inl (List.mem_of_getElem? (i := 0) rfl)) all0)
  obtain ⟨fs, hr, hrun, hended, hW, hsame⟩ := X2.leave (v := none) (fun _ => rfl)
  refine ⟨_, _, pre6 _ (X2.returnOut hx Bd.returns (hb hby d1_9) hr), hrun, hended, _, _, rfl, ?_, ⟨_, rfl⟩, hW, hsame.mono (by decide) (by decide)⟩
  show Qinit1 Z o0_ o1_ ko1_ x0_ h0 n0 _ T2.heap _
  rw [e2]
  exact ⟨k1_3_2, nnb1_3_2, rfl, N3, f8, sz5, g2_0, g2_1, g2_2, g2_3, g2_4⟩
theorem pd_4 : parseMethodDescriptor "([C)V" = some ⟨[(.array .char)], none⟩ := by decide +kernel
theorem d6_0 : decode prog_29_method_5_code 0 = .ok (.invokestatic 36, 3) := by decide +kernel
theorem d7_0 : decode prog_29_method_1_code 0 = .ok (.getstatic 13, 3) := by decide +kernel
theorem d7_3 : decode prog_29_method_1_code 3 = .ok (.invokevirtual 17, 3) := by decide +kernel
theorem d7_6 : decode prog_29_method_1_code 6 = .ok (.checkcast 18, 3) := by decide +kernel
theorem d7_9 : decode prog_29_method_1_code 9 = .ok (.areturn, 1) := by decide +kernel
theorem pn_2 : plainName "com/example/aeacus/aeacus/log/Outcome" = true := by first | (simp [plainName, overriddenIn]; done) | decide +kernel
theorem efvalues9 (m : MethodId)  : entryFrame m #[] 0 = mkF m 0 #[] [] := by first | (simp [entryFrame, mkF, argsToLocals, Value.category]; done) | rfl
def Qvalues9 (Z : State) (o0_ : Addr) (ko0_ : ClassId) (o1_ : Addr) (o2_ : Addr) (o3_ : Addr) (o4_ : Addr) (o5_ : Addr) (o6_ : Addr) (o7_ : Addr) (o8_ : Addr) (o9_ : Addr) (ko7_ : ClassId) (ko8_ : ClassId) (ko9_ : ClassId) (h0 : Heap) (n0 : Nat) (v : Option Value) (h : Heap) (L : List Loc) : Prop := ∃ nb2 : Addr, v = some (.ref nb2) ∧ Fr n0 L ∧ Keep h0 h [] ∧ h0.size ≤ nb2 ∧ Arv Z h nb2 ko0_ (.object "com/example/aeacus/aeacus/log/Outcome") (3 : Int32) [(.ref o1_), (.ref o2_), (.ref o3_)] .null ∧ Exa Z h nb2 "[Lcom/example/aeacus/aeacus/log/Outcome;"
set_option maxRecDepth 65536 in
set_option maxHeartbeats 40000000 in
theorem rmvalues9 (l : Launch) (Z : State) (a0 : Array Value) (hw : ∀ d ∈ tables_1, d.before a0 Z = true) (ws : List Jvm.Cond) (o0_ : Addr) (ko0_ : ClassId) (o1_ : Addr) (o2_ : Addr) (o3_ : Addr) (o4_ : Addr) (o5_ : Addr) (o6_ : Addr) (o7_ : Addr) (o8_ : Addr) (o9_ : Addr) (ko7_ : ClassId) (ko8_ : ClassId) (ko9_ : ClassId) (h0 : Heap) (n0 : Nat) (O0 : Old Z n0 h0) (P0 : Exa Z Z.heap o0_ "[Lcom/example/aeacus/aeacus/log/Outcome;") (P1 : Arv Z Z.heap o0_ ko0_ (.object "com/example/aeacus/aeacus/log/Outcome") (3 : Int32) [(.ref o1_), (.ref o2_), (.ref o3_)] .null) (P2 : Exa Z Z.heap o1_ "com/example/aeacus/aeacus/log/Outcome") (P3 : Fld Z Z.heap o1_ "com/example/aeacus/aeacus/log/Outcome" "label" "Ljava/lang/String;" (.ref o4_)) (P4 : Exa Z Z.heap o2_ "com/example/aeacus/aeacus/log/Outcome") (P5 : Fld Z Z.heap o2_ "com/example/aeacus/aeacus/log/Outcome" "label" "Ljava/lang/String;" (.ref o5_)) (P6 : Exa Z Z.heap o3_ "com/example/aeacus/aeacus/log/Outcome") (P7 : Fld Z Z.heap o3_ "com/example/aeacus/aeacus/log/Outcome" "label" "Ljava/lang/String;" (.ref o6_)) (P8 : Exa Z Z.heap o4_ "java/lang/String") (P9 : Fld Z Z.heap o4_ "java/lang/String" "value" "[B" (.ref o7_)) (P10 : Fld Z Z.heap o4_ "java/lang/String" "coder" "B" (.int (0 : Int32))) (P11 : Exa Z Z.heap o5_ "java/lang/String") (P12 : Fld Z Z.heap o5_ "java/lang/String" "value" "[B" (.ref o8_)) (P13 : Fld Z Z.heap o5_ "java/lang/String" "coder" "B" (.int (0 : Int32))) (P14 : Exa Z Z.heap o6_ "java/lang/String") (P15 : Fld Z Z.heap o6_ "java/lang/String" "value" "[B" (.ref o9_)) (P16 : Fld Z Z.heap o6_ "java/lang/String" "coder" "B" (.int (0 : Int32))) (P17 : Arv Z Z.heap o7_ ko7_ .byte (7 : Int32) [(.int (103 : Int32)), (.int (114 : Int32)), (.int (97 : Int32)), (.int (110 : Int32)), (.int (116 : Int32)), (.int (101 : Int32)), (.int (100 : Int32))] (.int (0 : Int32))) (P18 : Arv Z Z.heap o8_ ko8_ .byte (7 : Int32) [(.int (114 : Int32)), (.int (101 : Int32)), (.int (102 : Int32)), (.int (117 : Int32)), (.int (115 : Int32)), (.int (101 : Int32)), (.int (100 : Int32))] (.int (0 : Int32))) (P19 : Arv Z Z.heap o9_ ko9_ .byte (6 : Int32) [(.int (102 : Int32)), (.int (97 : Int32)), (.int (105 : Int32)), (.int (108 : Int32)), (.int (101 : Int32)), (.int (100 : Int32))] (.int (0 : Int32))) (P20 : Sta Z Z.heap "com/example/aeacus/aeacus/log/Outcome" "$VALUES" "[Lcom/example/aeacus/aeacus/log/Outcome;" (.ref o0_)) :
    MetFree l (⟨"com/example/aeacus/aeacus/log/Outcome", "values", "()[Lcom/example/aeacus/aeacus/log/Outcome;"⟩ : MethodName) (head1 (Jvm.Cond.code (⟨"com/example/aeacus/aeacus/log/Outcome", "values", "()[Lcom/example/aeacus/aeacus/log/Outcome;"⟩ : MethodName) prog_29_method_1_code 0 (some (.array (.object "com/example/aeacus/aeacus/log/Outcome"))) :: ws) ({ frames := 1, cells := 1, slots := 3, locals := 14 } : Room)) (fun a U => a = #[] ∧ Z.Warmed39 U.vm ∧ U.heap = h0) (fun _ _ _ _ _ => True) (fun _ U o U' => ∃ v L, o = .returned v ∧ Qvalues9 Z o0_ ko0_ o1_ o2_ o3_ o4_ o5_ o6_ o7_ o8_ o9_ ko7_ ko8_ ko9_ h0 n0 v U'.heap L ∧ FrameEnd U o U' L ({ frames := 1, cells := 1, slots := 3, locals := 14 } : Room).cells ({ frames := 1, cells := 1, slots := 3, locals := 14 } : Room).slots) := by
  refine MetFree.of_bodySF (plainFor_of_name pn_2) hisR ?_
  intro p e s m args below meth c s₁ Bd hml0 hP hK
  obtain ⟨rfl, hZ, hh⟩ := hP
  have hx := Bd.exec
  have hby := Bd.bytes
  have hml : c.maxLocals = 0 := hml0
  have hown : s.vm.findClass "com/example/aeacus/aeacus/log/Outcome" = some m.cls := findClass_of_methodNamed Bd.named
  have hnm := (name_of_methodNamed Bd.named Bd.method).1
  have X0 : Stand p l e ({ frames := 1, cells := 1, slots := 3, locals := 14 } : Room) s m #[] below meth c s₁ [] 0 0 := Stand.of_body Bd
  have e0 : s₁.heap = h0 := by rw [← hh, Bd.state]; rfl
  have N0 := Fr.nil n0
  have pre0 : ∀ t, Steps p.tables e below (s₁.setTop (mkF m 0 #[] [])) t → Steps p.tables e below (s₁.setTop (entryFrame m #[] 0)) t := fun t k => castTop (efvalues9 m ) k
  have K0 : Keep h0 h0 [] := Keep.refl _ _
  obtain ⟨T1, X1, e1, st1⟩ := getS2 X0 hx hZ hown (host := "") (Or.inl (hw _ (List.mem_of_getElem? (i := 40) rfl))) Via.refl e0 (P20.ext O0.2) (g := (mkF m 0 #[] [])) rfl (hb hby d7_0)
  have f3 : Arv Z h0 o0_ ko0_ (.object "com/example/aeacus/aeacus/log/Outcome") (3 : Int32) [(.ref o1_), (.ref o2_), (.ref o3_)] .null := P1.ext O0.2
  have f4 : Exa Z h0 o0_ "[Lcom/example/aeacus/aeacus/log/Outcome;" := P0.ext O0.2
  obtain ⟨T2, h2, X2, e2, E2, A2, Z2, st2⟩ := cloneH X1 hx hZ hown (hw _ (List.mem_of_getElem? (i := 42) rfl)) (hw _ (List.mem_of_getElem? (i := 43) rfl)) (hw _ (List.mem_of_getElem? (i := 47) rfl)) (hw _ (List.mem_of_getElem? (i := 45) rfl)) (hw _ (List.mem_of_getElem? (i := 46) rfl)) (hw _ (List.mem_of_getElem? (i := 48) rfl)) e1 f3.arh f4 (g := (mkF m 3 #[] [(.ref o0_)])) rfl (by rw [hml]; rfl) rfl (hb hby d7_3) (by decide) (W := 0) (cap := 3) (by show 2 * 0 + _ ≤ _; exact Nat.le_of_eq rfl) (by decide) (by decide) (by decide) (by decide)
  obtain ⟨b2, g2⟩ : ∃ z, z = h0.size := ⟨_, rfl⟩
  rw [← g2] at A2 Z2 st2
  have ge5 : n0 ≤ b2 := Nat.le_trans (Nat.le_trans (Nat.le_of_eq O0.1.symm) O0.2.1) (Nat.le_of_eq g2.symm)
  have sz6 : h0.size ≤ b2 := Nat.le_trans K0.1 (Nat.le_of_eq g2.symm)
  have f7 : Arv Z h2 b2 ko0_ (.object "com/example/aeacus/aeacus/log/Outcome") (3 : Int32) [(.ref o1_), (.ref o2_), (.ref o3_)] .null := A2
  obtain ⟨T8, X8, e8, st8⟩ := castY X2 hx hZ hown (hw _ (List.mem_of_getElem? (i := 52) rfl)) e2 (Ins.self Z2) (g := (mkF m 6 #[] [(.ref b2)])) rfl rfl (hb hby d7_6)
  have pre9 : ∀ t, Steps p.tables e below (T8.setTop (mkF m 9 #[] [(.ref b2)])) t → Steps p.tables e below (s₁.setTop (entryFrame m #[] 0)) t := by
    intro t kt
    refine pre0 t ?_
    show Steps p.tables e below (s₁.setTop (mkF m 0 #[] [])) _
    refine st1 _ ?_
    show Steps p.tables e below (T1.setTop (mkF m 3 #[] [(.ref o0_)])) _
    refine st2 _ ?_
    show Steps p.tables e below (T2.setTop (mkF m 6 #[] [(.ref b2)])) _
    refine st8 _ ?_
    exact kt
  have f11 : Keep h0 h2 [] := K0.ext E2
  obtain ⟨fs, hr, hrun, hended, hW, hsame⟩ := X8.leave (v := some (.ref b2)) (fun h => by rw [Bd.returns] at h; cases h)
  refine ⟨_, _, pre9 _ (retOut X8 hx Bd.returns rfl (Or.inr (Or.inr (Or.inr (Or.inr ⟨rfl, rfl, rfl⟩)))) (hb hby d7_9) hr), hrun, hended, _, _, rfl, ?_, ⟨_, rfl⟩, hW, hsame.mono (by decide) (by decide)⟩
  show Qvalues9 Z o0_ ko0_ o1_ o2_ o3_ o4_ o5_ o6_ o7_ o8_ o9_ ko7_ ko8_ ko9_ h0 n0 _ T8.heap _
  rw [e8]
  exact ⟨b2, rfl, N0, f11, sz6, f7, Z2⟩
theorem pd_5 : parseMethodDescriptor "()[Lcom/example/aeacus/aeacus/log/Outcome;" = some ⟨[], some (.array (.object "com/example/aeacus/aeacus/log/Outcome"))⟩ := by decide +kernel
theorem d6_3 : decode prog_29_method_5_code 3 = .ok (.astore_n 1, 1) := by decide +kernel
theorem d6_4 : decode prog_29_method_5_code 4 = .ok (.aload_n 1, 1) := by decide +kernel
theorem d6_5 : decode prog_29_method_5_code 5 = .ok (.arraylength, 1) := by decide +kernel
theorem d6_6 : decode prog_29_method_5_code 6 = .ok (.istore_n 2, 1) := by decide +kernel
theorem d6_7 : decode prog_29_method_5_code 7 = .ok (.iconst 0, 1) := by decide +kernel
theorem d6_8 : decode prog_29_method_5_code 8 = .ok (.istore_n 3, 1) := by decide +kernel
theorem d6_9 : decode prog_29_method_5_code 9 = .ok (.iload_n 3, 1) := by decide +kernel
theorem d6_10 : decode prog_29_method_5_code 10 = .ok (.iload_n 2, 1) := by decide +kernel
theorem d6_11 : decode prog_29_method_5_code 11 = .ok (.if_icmp .ge 29, 3) := by decide +kernel
theorem d6_14 : decode prog_29_method_5_code 14 = .ok (.aload_n 1, 1) := by decide +kernel
theorem d6_15 : decode prog_29_method_5_code 15 = .ok (.iload_n 3, 1) := by decide +kernel
theorem d6_16 : decode prog_29_method_5_code 16 = .ok (.aaload, 1) := by decide +kernel
theorem d6_17 : decode prog_29_method_5_code 17 = .ok (.astore 4, 2) := by decide +kernel
theorem d6_19 : decode prog_29_method_5_code 19 = .ok (.aload 4, 2) := by decide +kernel
theorem d6_21 : decode prog_29_method_5_code 21 = .ok (.getfield 32, 3) := by decide +kernel
theorem d6_24 : decode prog_29_method_5_code 24 = .ok (.aload_n 0, 1) := by decide +kernel
theorem d6_25 : decode prog_29_method_5_code 25 = .ok (.invokevirtual 40, 3) := by decide +kernel
theorem d8_0 : decode jdk_42_method_66_code 0 = .ok (.aload_n 0, 1) := by decide +kernel
theorem d8_1 : decode jdk_42_method_66_code 1 = .ok (.aload_n 1, 1) := by decide +kernel
theorem d8_2 : decode jdk_42_method_66_code 2 = .ok (.if_acmp .ne 5, 3) := by decide +kernel
theorem d8_7 : decode jdk_42_method_66_code 7 = .ok (.aload_n 1, 1) := by decide +kernel
theorem d8_8 : decode jdk_42_method_66_code 8 = .ok (.instanceof 10, 3) := by decide +kernel
theorem d8_11 : decode jdk_42_method_66_code 11 = .ok (.ifCond .eq 43, 3) := by decide +kernel
theorem d8_14 : decode jdk_42_method_66_code 14 = .ok (.aload_n 1, 1) := by decide +kernel
theorem d8_15 : decode jdk_42_method_66_code 15 = .ok (.checkcast 10, 3) := by decide +kernel
theorem d8_18 : decode jdk_42_method_66_code 18 = .ok (.astore_n 2, 1) := by decide +kernel
theorem d8_19 : decode jdk_42_method_66_code 19 = .ok (.getstatic 38, 3) := by decide +kernel
theorem d8_22 : decode jdk_42_method_66_code 22 = .ok (.ifCond .eq 14, 3) := by decide +kernel
theorem d8_25 : decode jdk_42_method_66_code 25 = .ok (.aload_n 0, 1) := by decide +kernel
theorem d8_26 : decode jdk_42_method_66_code 26 = .ok (.getfield 15, 3) := by decide +kernel
theorem d8_29 : decode jdk_42_method_66_code 29 = .ok (.aload_n 2, 1) := by decide +kernel
theorem d8_30 : decode jdk_42_method_66_code 30 = .ok (.getfield 15, 3) := by decide +kernel
theorem d8_33 : decode jdk_42_method_66_code 33 = .ok (.if_icmp .ne 21, 3) := by decide +kernel
theorem d8_36 : decode jdk_42_method_66_code 36 = .ok (.aload_n 0, 1) := by decide +kernel
theorem d8_37 : decode jdk_42_method_66_code 37 = .ok (.getfield 9, 3) := by decide +kernel
theorem d8_40 : decode jdk_42_method_66_code 40 = .ok (.aload_n 2, 1) := by decide +kernel
theorem d8_41 : decode jdk_42_method_66_code 41 = .ok (.getfield 9, 3) := by decide +kernel
theorem d8_44 : decode jdk_42_method_66_code 44 = .ok (.invokestatic 541, 3) := by decide +kernel
theorem d9_0 : decode jdk_43_method_13_code 0 = .ok (.aload_n 0, 1) := by decide +kernel
theorem d9_1 : decode jdk_43_method_13_code 1 = .ok (.arraylength, 1) := by decide +kernel
theorem d9_2 : decode jdk_43_method_13_code 2 = .ok (.aload_n 1, 1) := by decide +kernel
theorem d9_3 : decode jdk_43_method_13_code 3 = .ok (.arraylength, 1) := by decide +kernel
theorem d9_4 : decode jdk_43_method_13_code 4 = .ok (.if_icmp .ne 30, 3) := by decide +kernel
theorem d9_7 : decode jdk_43_method_13_code 7 = .ok (.iconst 0, 1) := by decide +kernel
theorem d9_8 : decode jdk_43_method_13_code 8 = .ok (.istore_n 2, 1) := by decide +kernel
theorem d9_9 : decode jdk_43_method_13_code 9 = .ok (.iload_n 2, 1) := by decide +kernel
theorem d9_10 : decode jdk_43_method_13_code 10 = .ok (.aload_n 0, 1) := by decide +kernel
theorem d9_11 : decode jdk_43_method_13_code 11 = .ok (.arraylength, 1) := by decide +kernel
theorem d9_12 : decode jdk_43_method_13_code 12 = .ok (.if_icmp .ge 20, 3) := by decide +kernel
theorem d9_15 : decode jdk_43_method_13_code 15 = .ok (.aload_n 0, 1) := by decide +kernel
theorem d9_16 : decode jdk_43_method_13_code 16 = .ok (.iload_n 2, 1) := by decide +kernel
theorem d9_17 : decode jdk_43_method_13_code 17 = .ok (.baload, 1) := by decide +kernel
theorem d9_18 : decode jdk_43_method_13_code 18 = .ok (.aload_n 1, 1) := by decide +kernel
theorem d9_19 : decode jdk_43_method_13_code 19 = .ok (.iload_n 2, 1) := by decide +kernel
theorem d9_20 : decode jdk_43_method_13_code 20 = .ok (.baload, 1) := by decide +kernel
theorem d9_21 : decode jdk_43_method_13_code 21 = .ok (.if_icmp .eq 5, 3) := by decide +kernel
theorem d9_26 : decode jdk_43_method_13_code 26 = .ok (.iinc 2 1, 3) := by decide +kernel
theorem d9_29 : decode jdk_43_method_13_code 29 = .ok (.goto (-20), 3) := by decide +kernel
theorem d9_32 : decode jdk_43_method_13_code 32 = .ok (.iconst 1, 1) := by decide +kernel
theorem d9_33 : decode jdk_43_method_13_code 33 = .ok (.ireturn, 1) := by decide +kernel
theorem pn_3 : plainName "java/lang/StringLatin1" = true := by first | (simp [plainName, overriddenIn]; done) | decide +kernel
theorem efequals12 (m : MethodId) (o0_ : Addr) (o1_ : Addr) : entryFrame m #[(.ref o0_), (.ref o1_)] 3 = mkF m 0 #[.val (.ref o0_), .val (.ref o1_), .unset] [] := by first | (simp [entryFrame, mkF, argsToLocals, Value.category]; done) | rfl
def Qequals12 (Z : State) (o0_ : Addr) (o1_ : Addr) (ko0_ : ClassId) (ko1_ : ClassId) (h0 : Heap) (n0 : Nat) (v : Option Value) (h : Heap) (L : List Loc) : Prop := v = some (.int (1 : Int32)) ∧ Fr n0 L ∧ h = h0
set_option maxRecDepth 65536 in
set_option maxHeartbeats 40000000 in
theorem rmequals12 (l : Launch) (Z : State) (a0 : Array Value) (hw : ∀ d ∈ tables_1, d.before a0 Z = true) (ws : List Jvm.Cond) (o0_ : Addr) (o1_ : Addr) (ko0_ : ClassId) (ko1_ : ClassId) (h0 : Heap) (n0 : Nat) (O0 : Old Z n0 h0) (P0 : Arv Z Z.heap o0_ ko0_ .byte (7 : Int32) [(.int (103 : Int32)), (.int (114 : Int32)), (.int (97 : Int32)), (.int (110 : Int32)), (.int (116 : Int32)), (.int (101 : Int32)), (.int (100 : Int32))] (.int (0 : Int32))) (P1 : Arv Z h0 o1_ ko1_ .byte (7 : Int32) [(.int (103 : Int32)), (.int (114 : Int32)), (.int (97 : Int32)), (.int (110 : Int32)), (.int (116 : Int32)), (.int (101 : Int32)), (.int (100 : Int32))] (.int (0 : Int32))) (P2 : Exa Z h0 o1_ "[B") :
    MetFree l (⟨"java/lang/StringLatin1", "equals", "([B[B)Z"⟩ : MethodName) (head1 (Jvm.Cond.code (⟨"java/lang/StringLatin1", "equals", "([B[B)Z"⟩ : MethodName) jdk_43_method_13_code 3 (some .boolean) :: ws) ({ frames := 0, cells := 0, slots := 0, locals := 0 } : Room)) (fun a U => a = #[(.ref o0_), (.ref o1_)] ∧ Z.Warmed39 U.vm ∧ U.heap = h0) (fun _ _ _ _ _ => True) (fun _ U o U' => ∃ v L, o = .returned v ∧ Qequals12 Z o0_ o1_ ko0_ ko1_ h0 n0 v U'.heap L ∧ FrameEnd U o U' L ({ frames := 0, cells := 0, slots := 0, locals := 0 } : Room).cells ({ frames := 0, cells := 0, slots := 0, locals := 0 } : Room).slots) := by
  refine MetFree.of_bodySF (plainFor_of_name pn_3) hisR ?_
  intro p e s m args below meth c s₁ Bd hml0 hP hK
  obtain ⟨rfl, hZ, hh⟩ := hP
  have hx := Bd.exec
  have hby := Bd.bytes
  have hml : c.maxLocals = 3 := hml0
  have hown : s.vm.findClass "java/lang/StringLatin1" = some m.cls := findClass_of_methodNamed Bd.named
  have hnm := (name_of_methodNamed Bd.named Bd.method).1
  have X0 : Stand p l e ({ frames := 0, cells := 0, slots := 0, locals := 0 } : Room) s m #[(.ref o0_), (.ref o1_)] below meth c s₁ [] 0 0 := Stand.of_body Bd
  have e0 : s₁.heap = h0 := by rw [← hh, Bd.state]; rfl
  have N0 := Fr.nil n0
  have pre0 : ∀ t, Steps p.tables e below (s₁.setTop (mkF m 0 #[.val (.ref o0_), .val (.ref o1_), .unset] [])) t → Steps p.tables e below (s₁.setTop (entryFrame m #[(.ref o0_), (.ref o1_)] 3)) t := fun t k => castTop (efequals12 m o0_ o1_) k
  have K0 : Keep h0 h0 [] := Keep.refl _ _
  have f2 : Arv Z h0 o0_ ko0_ .byte (7 : Int32) [(.int (103 : Int32)), (.int (114 : Int32)), (.int (97 : Int32)), (.int (110 : Int32)), (.int (116 : Int32)), (.int (101 : Int32)), (.int (100 : Int32))] (.int (0 : Int32)) := P0.ext O0.2
  obtain ⟨c1, r1, q1, s1, z1, y1, G1⟩ := id f2
  obtain ⟨c3, r3, q3, s3, z3, y3, G3⟩ := id P1
  have f5 : Arv Z h0 o0_ ko0_ .byte (7 : Int32) [(.int (103 : Int32)), (.int (114 : Int32)), (.int (97 : Int32)), (.int (110 : Int32)), (.int (116 : Int32)), (.int (101 : Int32)), (.int (100 : Int32))] (.int (0 : Int32)) := P0.ext O0.2
  obtain ⟨c4, r4, q4, s4, z4, y4, G4⟩ := id f5
  have f6 : Arv Z h0 o0_ ko0_ .byte (7 : Int32) [(.int (103 : Int32)), (.int (114 : Int32)), (.int (97 : Int32)), (.int (110 : Int32)), (.int (116 : Int32)), (.int (101 : Int32)), (.int (100 : Int32))] (.int (0 : Int32)) := P0.ext O0.2
  obtain ⟨c7, r7, q7, s7, z7, y7, G7⟩ := id f6
  have hin7 : ¬ ((0 : Int32) < 0 ∨ c7.slots.size ≤ ((0 : Int32)).toNatClampNeg) := inb_of s7 ⟨by decide, by decide⟩
  have hat7 : c7.slots[((0 : Int32)).toNatClampNeg]? = some (.int (103 : Int32)) := Has.at y7 hin7 rfl
  obtain ⟨c8, r8, q8, s8, z8, y8, G8⟩ := id P1
  have hin8 : ¬ ((0 : Int32) < 0 ∨ c8.slots.size ≤ ((0 : Int32)).toNatClampNeg) := inb_of s8 ⟨by decide, by decide⟩
  have hat8 : c8.slots[((0 : Int32)).toNatClampNeg]? = some (.int (103 : Int32)) := Has.at y8 hin8 rfl
  have f10 : Arv Z h0 o0_ ko0_ .byte (7 : Int32) [(.int (103 : Int32)), (.int (114 : Int32)), (.int (97 : Int32)), (.int (110 : Int32)), (.int (116 : Int32)), (.int (101 : Int32)), (.int (100 : Int32))] (.int (0 : Int32)) := P0.ext O0.2
  obtain ⟨c9, r9, q9, s9, z9, y9, G9⟩ := id f10
  have f11 : Arv Z h0 o0_ ko0_ .byte (7 : Int32) [(.int (103 : Int32)), (.int (114 : Int32)), (.int (97 : Int32)), (.int (110 : Int32)), (.int (116 : Int32)), (.int (101 : Int32)), (.int (100 : Int32))] (.int (0 : Int32)) := P0.ext O0.2
  obtain ⟨c12, r12, q12, s12, z12, y12, G12⟩ := id f11
  have hin12 : ¬ ((1 : Int32) < 0 ∨ c12.slots.size ≤ ((1 : Int32)).toNatClampNeg) := inb_of s12 ⟨by decide, by decide⟩
  have hat12 : c12.slots[((1 : Int32)).toNatClampNeg]? = some (.int (114 : Int32)) := Has.at y12 hin12 rfl
  obtain ⟨c13, r13, q13, s13, z13, y13, G13⟩ := id P1
  have hin13 : ¬ ((1 : Int32) < 0 ∨ c13.slots.size ≤ ((1 : Int32)).toNatClampNeg) := inb_of s13 ⟨by decide, by decide⟩
  have hat13 : c13.slots[((1 : Int32)).toNatClampNeg]? = some (.int (114 : Int32)) := Has.at y13 hin13 rfl
  have f15 : Arv Z h0 o0_ ko0_ .byte (7 : Int32) [(.int (103 : Int32)), (.int (114 : Int32)), (.int (97 : Int32)), (.int (110 : Int32)), (.int (116 : Int32)), (.int (101 : Int32)), (.int (100 : Int32))] (.int (0 : Int32)) := P0.ext O0.2
  obtain ⟨c14, r14, q14, s14, z14, y14, G14⟩ := id f15
  have f16 : Arv Z h0 o0_ ko0_ .byte (7 : Int32) [(.int (103 : Int32)), (.int (114 : Int32)), (.int (97 : Int32)), (.int (110 : Int32)), (.int (116 : Int32)), (.int (101 : Int32)), (.int (100 : Int32))] (.int (0 : Int32)) := P0.ext O0.2
  obtain ⟨c17, r17, q17, s17, z17, y17, G17⟩ := id f16
  have hin17 : ¬ ((2 : Int32) < 0 ∨ c17.slots.size ≤ ((2 : Int32)).toNatClampNeg) := inb_of s17 ⟨by decide, by decide⟩
  have hat17 : c17.slots[((2 : Int32)).toNatClampNeg]? = some (.int (97 : Int32)) := Has.at y17 hin17 rfl
  obtain ⟨c18, r18, q18, s18, z18, y18, G18⟩ := id P1
  have hin18 : ¬ ((2 : Int32) < 0 ∨ c18.slots.size ≤ ((2 : Int32)).toNatClampNeg) := inb_of s18 ⟨by decide, by decide⟩
  have hat18 : c18.slots[((2 : Int32)).toNatClampNeg]? = some (.int (97 : Int32)) := Has.at y18 hin18 rfl
  have f20 : Arv Z h0 o0_ ko0_ .byte (7 : Int32) [(.int (103 : Int32)), (.int (114 : Int32)), (.int (97 : Int32)), (.int (110 : Int32)), (.int (116 : Int32)), (.int (101 : Int32)), (.int (100 : Int32))] (.int (0 : Int32)) := P0.ext O0.2
  obtain ⟨c19, r19, q19, s19, z19, y19, G19⟩ := id f20
  have f21 : Arv Z h0 o0_ ko0_ .byte (7 : Int32) [(.int (103 : Int32)), (.int (114 : Int32)), (.int (97 : Int32)), (.int (110 : Int32)), (.int (116 : Int32)), (.int (101 : Int32)), (.int (100 : Int32))] (.int (0 : Int32)) := P0.ext O0.2
  obtain ⟨c22, r22, q22, s22, z22, y22, G22⟩ := id f21
  have hin22 : ¬ ((3 : Int32) < 0 ∨ c22.slots.size ≤ ((3 : Int32)).toNatClampNeg) := inb_of s22 ⟨by decide, by decide⟩
  have hat22 : c22.slots[((3 : Int32)).toNatClampNeg]? = some (.int (110 : Int32)) := Has.at y22 hin22 rfl
  obtain ⟨c23, r23, q23, s23, z23, y23, G23⟩ := id P1
  have hin23 : ¬ ((3 : Int32) < 0 ∨ c23.slots.size ≤ ((3 : Int32)).toNatClampNeg) := inb_of s23 ⟨by decide, by decide⟩
  have hat23 : c23.slots[((3 : Int32)).toNatClampNeg]? = some (.int (110 : Int32)) := Has.at y23 hin23 rfl
  have f25 : Arv Z h0 o0_ ko0_ .byte (7 : Int32) [(.int (103 : Int32)), (.int (114 : Int32)), (.int (97 : Int32)), (.int (110 : Int32)), (.int (116 : Int32)), (.int (101 : Int32)), (.int (100 : Int32))] (.int (0 : Int32)) := P0.ext O0.2
  obtain ⟨c24, r24, q24, s24, z24, y24, G24⟩ := id f25
  have f26 : Arv Z h0 o0_ ko0_ .byte (7 : Int32) [(.int (103 : Int32)), (.int (114 : Int32)), (.int (97 : Int32)), (.int (110 : Int32)), (.int (116 : Int32)), (.int (101 : Int32)), (.int (100 : Int32))] (.int (0 : Int32)) := P0.ext O0.2
  obtain ⟨c27, r27, q27, s27, z27, y27, G27⟩ := id f26
  have hin27 : ¬ ((4 : Int32) < 0 ∨ c27.slots.size ≤ ((4 : Int32)).toNatClampNeg) := inb_of s27 ⟨by decide, by decide⟩
  have hat27 : c27.slots[((4 : Int32)).toNatClampNeg]? = some (.int (116 : Int32)) := Has.at y27 hin27 rfl
  obtain ⟨c28, r28, q28, s28, z28, y28, G28⟩ := id P1
  have hin28 : ¬ ((4 : Int32) < 0 ∨ c28.slots.size ≤ ((4 : Int32)).toNatClampNeg) := inb_of s28 ⟨by decide, by decide⟩
  have hat28 : c28.slots[((4 : Int32)).toNatClampNeg]? = some (.int (116 : Int32)) := Has.at y28 hin28 rfl
  have f30 : Arv Z h0 o0_ ko0_ .byte (7 : Int32) [(.int (103 : Int32)), (.int (114 : Int32)), (.int (97 : Int32)), (.int (110 : Int32)), (.int (116 : Int32)), (.int (101 : Int32)), (.int (100 : Int32))] (.int (0 : Int32)) := P0.ext O0.2
  obtain ⟨c29, r29, q29, s29, z29, y29, G29⟩ := id f30
  have f31 : Arv Z h0 o0_ ko0_ .byte (7 : Int32) [(.int (103 : Int32)), (.int (114 : Int32)), (.int (97 : Int32)), (.int (110 : Int32)), (.int (116 : Int32)), (.int (101 : Int32)), (.int (100 : Int32))] (.int (0 : Int32)) := P0.ext O0.2
  obtain ⟨c32, r32, q32, s32, z32, y32, G32⟩ := id f31
  have hin32 : ¬ ((5 : Int32) < 0 ∨ c32.slots.size ≤ ((5 : Int32)).toNatClampNeg) := inb_of s32 ⟨by decide, by decide⟩
  have hat32 : c32.slots[((5 : Int32)).toNatClampNeg]? = some (.int (101 : Int32)) := Has.at y32 hin32 rfl
  obtain ⟨c33, r33, q33, s33, z33, y33, G33⟩ := id P1
  have hin33 : ¬ ((5 : Int32) < 0 ∨ c33.slots.size ≤ ((5 : Int32)).toNatClampNeg) := inb_of s33 ⟨by decide, by decide⟩
  have hat33 : c33.slots[((5 : Int32)).toNatClampNeg]? = some (.int (101 : Int32)) := Has.at y33 hin33 rfl
  have f35 : Arv Z h0 o0_ ko0_ .byte (7 : Int32) [(.int (103 : Int32)), (.int (114 : Int32)), (.int (97 : Int32)), (.int (110 : Int32)), (.int (116 : Int32)), (.int (101 : Int32)), (.int (100 : Int32))] (.int (0 : Int32)) := P0.ext O0.2
  obtain ⟨c34, r34, q34, s34, z34, y34, G34⟩ := id f35
  have f36 : Arv Z h0 o0_ ko0_ .byte (7 : Int32) [(.int (103 : Int32)), (.int (114 : Int32)), (.int (97 : Int32)), (.int (110 : Int32)), (.int (116 : Int32)), (.int (101 : Int32)), (.int (100 : Int32))] (.int (0 : Int32)) := P0.ext O0.2
  obtain ⟨c37, r37, q37, s37, z37, y37, G37⟩ := id f36
  have hin37 : ¬ ((6 : Int32) < 0 ∨ c37.slots.size ≤ ((6 : Int32)).toNatClampNeg) := inb_of s37 ⟨by decide, by decide⟩
  have hat37 : c37.slots[((6 : Int32)).toNatClampNeg]? = some (.int (100 : Int32)) := Has.at y37 hin37 rfl
  obtain ⟨c38, r38, q38, s38, z38, y38, G38⟩ := id P1
  have hin38 : ¬ ((6 : Int32) < 0 ∨ c38.slots.size ≤ ((6 : Int32)).toNatClampNeg) := inb_of s38 ⟨by decide, by decide⟩
  have hat38 : c38.slots[((6 : Int32)).toNatClampNeg]? = some (.int (100 : Int32)) := Has.at y38 hin38 rfl
  have f40 : Arv Z h0 o0_ ko0_ .byte (7 : Int32) [(.int (103 : Int32)), (.int (114 : Int32)), (.int (97 : Int32)), (.int (110 : Int32)), (.int (116 : Int32)), (.int (101 : Int32)), (.int (100 : Int32))] (.int (0 : Int32)) := P0.ext O0.2
  obtain ⟨c39, r39, q39, s39, z39, y39, G39⟩ := id f40
  have pre41 : ∀ t, Steps p.tables e below (s₁.setTop (mkF m 33 #[.val (.ref o0_), .val (.ref o1_), .val (.int (7 : Int32))] [(.int (1 : Int32))])) t → Steps p.tables e below (s₁.setTop (entryFrame m #[(.ref o0_), (.ref o1_)] 3)) t := by
    intro t kt
    refine pre0 t ?_
    show Steps p.tables e below (s₁.setTop (mkF m 0 #[.val (.ref o0_), .val (.ref o1_), .unset] [])) _
    refine XS.aloadN X0.here hx rfl (hb hby d9_0) rfl rfl ?_
    show Steps p.tables e below (s₁.setTop (mkF m 1 #[.val (.ref o0_), .val (.ref o1_), .unset] [(.ref o0_)])) _
    refine X0.arraylength hx (by rw [e0]; exact r1.1) (State.isArrayOf_alike hZ.alike r1.2.1) (g := (mkF m 1 #[.val (.ref o0_), .val (.ref o1_), .unset] [(.ref o0_)])) rfl rfl (hb hby d9_1) _ ?_
    rw [len_of s1 z1]
    show Steps p.tables e below (s₁.setTop (mkF m 2 #[.val (.ref o0_), .val (.ref o1_), .unset] [(.int (7 : Int32))])) _
    refine XS.aloadN X0.here hx rfl (hb hby d9_2) rfl rfl ?_
    show Steps p.tables e below (s₁.setTop (mkF m 3 #[.val (.ref o0_), .val (.ref o1_), .unset] [(.ref o1_), (.int (7 : Int32))])) _
    refine X0.arraylength hx (by rw [e0]; exact r3.1) (State.isArrayOf_alike hZ.alike r3.2.1) (g := (mkF m 3 #[.val (.ref o0_), .val (.ref o1_), .unset] [(.ref o1_), (.int (7 : Int32))])) rfl rfl (hb hby d9_3) _ ?_
    rw [len_of s3 z3]
    show Steps p.tables e below (s₁.setTop (mkF m 4 #[.val (.ref o0_), .val (.ref o1_), .unset] [(.int (7 : Int32)), (.int (7 : Int32))])) _
    refine XS.icmpNo X0.here hx rfl (hb hby d9_4) rfl (teq (by decide : (7 : Int32) = (7 : Int32))).2 ?_
    show Steps p.tables e below (s₁.setTop (mkF m 7 #[.val (.ref o0_), .val (.ref o1_), .unset] [])) _
    refine XS.iconst X0.here hx rfl (hb hby d9_7) ?_
    show Steps p.tables e below (s₁.setTop (mkF m 8 #[.val (.ref o0_), .val (.ref o1_), .unset] [(.int (0 : Int32))])) _
    refine XS.istoreN X0.here hx rfl (hb hby d9_8) rfl (l' := #[.val (.ref o0_), .val (.ref o1_), .val (.int (0 : Int32))]) rfl ?_
    show Steps p.tables e below (s₁.setTop (mkF m 9 #[.val (.ref o0_), .val (.ref o1_), .val (.int (0 : Int32))] [])) _
    refine XS.iloadN X0.here hx rfl (hb hby d9_9) rfl ?_
    show Steps p.tables e below (s₁.setTop (mkF m 10 #[.val (.ref o0_), .val (.ref o1_), .val (.int (0 : Int32))] [(.int (0 : Int32))])) _
    refine XS.aloadN X0.here hx rfl (hb hby d9_10) rfl rfl ?_
    show Steps p.tables e below (s₁.setTop (mkF m 11 #[.val (.ref o0_), .val (.ref o1_), .val (.int (0 : Int32))] [(.ref o0_), (.int (0 : Int32))])) _
    refine X0.arraylength hx (by rw [e0]; exact r4.1) (State.isArrayOf_alike hZ.alike r4.2.1) (g := (mkF m 11 #[.val (.ref o0_), .val (.ref o1_), .val (.int (0 : Int32))] [(.ref o0_), (.int (0 : Int32))])) rfl rfl (hb hby d9_11) _ ?_
    rw [len_of s4 z4]
    show Steps p.tables e below (s₁.setTop (mkF m 12 #[.val (.ref o0_), .val (.ref o1_), .val (.int (0 : Int32))] [(.int (7 : Int32)), (.int (0 : Int32))])) _
    refine XS.icmpNo X0.here hx rfl (hb hby d9_12) rfl (tlt (by decide : (0 : Int32) < (7 : Int32))).2.1 ?_
    show Steps p.tables e below (s₁.setTop (mkF m 15 #[.val (.ref o0_), .val (.ref o1_), .val (.int (0 : Int32))] [])) _
    refine XS.aloadN X0.here hx rfl (hb hby d9_15) rfl rfl ?_
    show Steps p.tables e below (s₁.setTop (mkF m 16 #[.val (.ref o0_), .val (.ref o1_), .val (.int (0 : Int32))] [(.ref o0_)])) _
    refine XS.iloadN X0.here hx rfl (hb hby d9_16) rfl ?_
    show Steps p.tables e below (s₁.setTop (mkF m 17 #[.val (.ref o0_), .val (.ref o1_), .val (.int (0 : Int32))] [(.int (0 : Int32)), (.ref o0_)])) _
    refine X0.baloadBytes hx (j := (0 : Int32)) (v := (.int (103 : Int32))) (by rw [e0]; exact r7.1) (State.isArrayOf_alike hZ.alike r7.2.1) r7.2.2 hin7 hat7 (g := (mkF m 17 #[.val (.ref o0_), .val (.ref o1_), .val (.int (0 : Int32))] [(.int (0 : Int32)), (.ref o0_)])) rfl rfl (hb hby d9_17) _ ?_
    show Steps p.tables e below (s₁.setTop (mkF m 18 #[.val (.ref o0_), .val (.ref o1_), .val (.int (0 : Int32))] [(.int (103 : Int32))])) _
    refine XS.aloadN X0.here hx rfl (hb hby d9_18) rfl rfl ?_
    show Steps p.tables e below (s₁.setTop (mkF m 19 #[.val (.ref o0_), .val (.ref o1_), .val (.int (0 : Int32))] [(.ref o1_), (.int (103 : Int32))])) _
    refine XS.iloadN X0.here hx rfl (hb hby d9_19) rfl ?_
    show Steps p.tables e below (s₁.setTop (mkF m 20 #[.val (.ref o0_), .val (.ref o1_), .val (.int (0 : Int32))] [(.int (0 : Int32)), (.ref o1_), (.int (103 : Int32))])) _
    refine X0.baloadBytes hx (j := (0 : Int32)) (v := (.int (103 : Int32))) (by rw [e0]; exact r8.1) (State.isArrayOf_alike hZ.alike r8.2.1) r8.2.2 hin8 hat8 (g := (mkF m 20 #[.val (.ref o0_), .val (.ref o1_), .val (.int (0 : Int32))] [(.int (0 : Int32)), (.ref o1_), (.int (103 : Int32))])) rfl rfl (hb hby d9_20) _ ?_
    show Steps p.tables e below (s₁.setTop (mkF m 21 #[.val (.ref o0_), .val (.ref o1_), .val (.int (0 : Int32))] [(.int (103 : Int32)), (.int (103 : Int32))])) _
    refine XS.icmpYes X0.here hx rfl (pc0 := 21) (pc' := 26) rfl (hb hby d9_21) rfl (teq (by decide : (103 : Int32) = (103 : Int32))).1 (by decide) (by decide) ?_
    show Steps p.tables e below (s₁.setTop (mkF m 26 #[.val (.ref o0_), .val (.ref o1_), .val (.int (0 : Int32))] [])) _
    refine XS.iinc X0.here hx rfl (hb hby d9_26) rfl (l' := #[.val (.ref o0_), .val (.ref o1_), .val (.int (1 : Int32))]) rfl ?_
    show Steps p.tables e below (s₁.setTop (mkF m 29 #[.val (.ref o0_), .val (.ref o1_), .val (.int (1 : Int32))] [])) _
    refine XS.goto X0.here hx rfl (pc0 := 29) (pc' := 9) rfl (hb hby d9_29) (by decide) (by decide) ?_
    show Steps p.tables e below (s₁.setTop (mkF m 9 #[.val (.ref o0_), .val (.ref o1_), .val (.int (1 : Int32))] [])) _
    refine XS.iloadN X0.here hx rfl (hb hby d9_9) rfl ?_
    show Steps p.tables e below (s₁.setTop (mkF m 10 #[.val (.ref o0_), .val (.ref o1_), .val (.int (1 : Int32))] [(.int (1 : Int32))])) _
    refine XS.aloadN X0.here hx rfl (hb hby d9_10) rfl rfl ?_
    show Steps p.tables e below (s₁.setTop (mkF m 11 #[.val (.ref o0_), .val (.ref o1_), .val (.int (1 : Int32))] [(.ref o0_), (.int (1 : Int32))])) _
    refine X0.arraylength hx (by rw [e0]; exact r9.1) (State.isArrayOf_alike hZ.alike r9.2.1) (g := (mkF m 11 #[.val (.ref o0_), .val (.ref o1_), .val (.int (1 : Int32))] [(.ref o0_), (.int (1 : Int32))])) rfl rfl (hb hby d9_11) _ ?_
    rw [len_of s9 z9]
    show Steps p.tables e below (s₁.setTop (mkF m 12 #[.val (.ref o0_), .val (.ref o1_), .val (.int (1 : Int32))] [(.int (7 : Int32)), (.int (1 : Int32))])) _
    refine XS.icmpNo X0.here hx rfl (hb hby d9_12) rfl (tlt (by decide : (1 : Int32) < (7 : Int32))).2.1 ?_
    show Steps p.tables e below (s₁.setTop (mkF m 15 #[.val (.ref o0_), .val (.ref o1_), .val (.int (1 : Int32))] [])) _
    refine XS.aloadN X0.here hx rfl (hb hby d9_15) rfl rfl ?_
    show Steps p.tables e below (s₁.setTop (mkF m 16 #[.val (.ref o0_), .val (.ref o1_), .val (.int (1 : Int32))] [(.ref o0_)])) _
    refine XS.iloadN X0.here hx rfl (hb hby d9_16) rfl ?_
    show Steps p.tables e below (s₁.setTop (mkF m 17 #[.val (.ref o0_), .val (.ref o1_), .val (.int (1 : Int32))] [(.int (1 : Int32)), (.ref o0_)])) _
    refine X0.baloadBytes hx (j := (1 : Int32)) (v := (.int (114 : Int32))) (by rw [e0]; exact r12.1) (State.isArrayOf_alike hZ.alike r12.2.1) r12.2.2 hin12 hat12 (g := (mkF m 17 #[.val (.ref o0_), .val (.ref o1_), .val (.int (1 : Int32))] [(.int (1 : Int32)), (.ref o0_)])) rfl rfl (hb hby d9_17) _ ?_
    show Steps p.tables e below (s₁.setTop (mkF m 18 #[.val (.ref o0_), .val (.ref o1_), .val (.int (1 : Int32))] [(.int (114 : Int32))])) _
    refine XS.aloadN X0.here hx rfl (hb hby d9_18) rfl rfl ?_
    show Steps p.tables e below (s₁.setTop (mkF m 19 #[.val (.ref o0_), .val (.ref o1_), .val (.int (1 : Int32))] [(.ref o1_), (.int (114 : Int32))])) _
    refine XS.iloadN X0.here hx rfl (hb hby d9_19) rfl ?_
    show Steps p.tables e below (s₁.setTop (mkF m 20 #[.val (.ref o0_), .val (.ref o1_), .val (.int (1 : Int32))] [(.int (1 : Int32)), (.ref o1_), (.int (114 : Int32))])) _
    refine X0.baloadBytes hx (j := (1 : Int32)) (v := (.int (114 : Int32))) (by rw [e0]; exact r13.1) (State.isArrayOf_alike hZ.alike r13.2.1) r13.2.2 hin13 hat13 (g := (mkF m 20 #[.val (.ref o0_), .val (.ref o1_), .val (.int (1 : Int32))] [(.int (1 : Int32)), (.ref o1_), (.int (114 : Int32))])) rfl rfl (hb hby d9_20) _ ?_
    show Steps p.tables e below (s₁.setTop (mkF m 21 #[.val (.ref o0_), .val (.ref o1_), .val (.int (1 : Int32))] [(.int (114 : Int32)), (.int (114 : Int32))])) _
    refine XS.icmpYes X0.here hx rfl (pc0 := 21) (pc' := 26) rfl (hb hby d9_21) rfl (teq (by decide : (114 : Int32) = (114 : Int32))).1 (by decide) (by decide) ?_
    show Steps p.tables e below (s₁.setTop (mkF m 26 #[.val (.ref o0_), .val (.ref o1_), .val (.int (1 : Int32))] [])) _
    refine XS.iinc X0.here hx rfl (hb hby d9_26) rfl (l' := #[.val (.ref o0_), .val (.ref o1_), .val (.int (2 : Int32))]) rfl ?_
    show Steps p.tables e below (s₁.setTop (mkF m 29 #[.val (.ref o0_), .val (.ref o1_), .val (.int (2 : Int32))] [])) _
    refine XS.goto X0.here hx rfl (pc0 := 29) (pc' := 9) rfl (hb hby d9_29) (by decide) (by decide) ?_
    show Steps p.tables e below (s₁.setTop (mkF m 9 #[.val (.ref o0_), .val (.ref o1_), .val (.int (2 : Int32))] [])) _
    refine XS.iloadN X0.here hx rfl (hb hby d9_9) rfl ?_
    show Steps p.tables e below (s₁.setTop (mkF m 10 #[.val (.ref o0_), .val (.ref o1_), .val (.int (2 : Int32))] [(.int (2 : Int32))])) _
    refine XS.aloadN X0.here hx rfl (hb hby d9_10) rfl rfl ?_
    show Steps p.tables e below (s₁.setTop (mkF m 11 #[.val (.ref o0_), .val (.ref o1_), .val (.int (2 : Int32))] [(.ref o0_), (.int (2 : Int32))])) _
    refine X0.arraylength hx (by rw [e0]; exact r14.1) (State.isArrayOf_alike hZ.alike r14.2.1) (g := (mkF m 11 #[.val (.ref o0_), .val (.ref o1_), .val (.int (2 : Int32))] [(.ref o0_), (.int (2 : Int32))])) rfl rfl (hb hby d9_11) _ ?_
    rw [len_of s14 z14]
    show Steps p.tables e below (s₁.setTop (mkF m 12 #[.val (.ref o0_), .val (.ref o1_), .val (.int (2 : Int32))] [(.int (7 : Int32)), (.int (2 : Int32))])) _
    refine XS.icmpNo X0.here hx rfl (hb hby d9_12) rfl (tlt (by decide : (2 : Int32) < (7 : Int32))).2.1 ?_
    show Steps p.tables e below (s₁.setTop (mkF m 15 #[.val (.ref o0_), .val (.ref o1_), .val (.int (2 : Int32))] [])) _
    refine XS.aloadN X0.here hx rfl (hb hby d9_15) rfl rfl ?_
    show Steps p.tables e below (s₁.setTop (mkF m 16 #[.val (.ref o0_), .val (.ref o1_), .val (.int (2 : Int32))] [(.ref o0_)])) _
    refine XS.iloadN X0.here hx rfl (hb hby d9_16) rfl ?_
    show Steps p.tables e below (s₁.setTop (mkF m 17 #[.val (.ref o0_), .val (.ref o1_), .val (.int (2 : Int32))] [(.int (2 : Int32)), (.ref o0_)])) _
    refine X0.baloadBytes hx (j := (2 : Int32)) (v := (.int (97 : Int32))) (by rw [e0]; exact r17.1) (State.isArrayOf_alike hZ.alike r17.2.1) r17.2.2 hin17 hat17 (g := (mkF m 17 #[.val (.ref o0_), .val (.ref o1_), .val (.int (2 : Int32))] [(.int (2 : Int32)), (.ref o0_)])) rfl rfl (hb hby d9_17) _ ?_
    show Steps p.tables e below (s₁.setTop (mkF m 18 #[.val (.ref o0_), .val (.ref o1_), .val (.int (2 : Int32))] [(.int (97 : Int32))])) _
    refine XS.aloadN X0.here hx rfl (hb hby d9_18) rfl rfl ?_
    show Steps p.tables e below (s₁.setTop (mkF m 19 #[.val (.ref o0_), .val (.ref o1_), .val (.int (2 : Int32))] [(.ref o1_), (.int (97 : Int32))])) _
    refine XS.iloadN X0.here hx rfl (hb hby d9_19) rfl ?_
    show Steps p.tables e below (s₁.setTop (mkF m 20 #[.val (.ref o0_), .val (.ref o1_), .val (.int (2 : Int32))] [(.int (2 : Int32)), (.ref o1_), (.int (97 : Int32))])) _
    refine X0.baloadBytes hx (j := (2 : Int32)) (v := (.int (97 : Int32))) (by rw [e0]; exact r18.1) (State.isArrayOf_alike hZ.alike r18.2.1) r18.2.2 hin18 hat18 (g := (mkF m 20 #[.val (.ref o0_), .val (.ref o1_), .val (.int (2 : Int32))] [(.int (2 : Int32)), (.ref o1_), (.int (97 : Int32))])) rfl rfl (hb hby d9_20) _ ?_
    show Steps p.tables e below (s₁.setTop (mkF m 21 #[.val (.ref o0_), .val (.ref o1_), .val (.int (2 : Int32))] [(.int (97 : Int32)), (.int (97 : Int32))])) _
    refine XS.icmpYes X0.here hx rfl (pc0 := 21) (pc' := 26) rfl (hb hby d9_21) rfl (teq (by decide : (97 : Int32) = (97 : Int32))).1 (by decide) (by decide) ?_
    show Steps p.tables e below (s₁.setTop (mkF m 26 #[.val (.ref o0_), .val (.ref o1_), .val (.int (2 : Int32))] [])) _
    refine XS.iinc X0.here hx rfl (hb hby d9_26) rfl (l' := #[.val (.ref o0_), .val (.ref o1_), .val (.int (3 : Int32))]) rfl ?_
    show Steps p.tables e below (s₁.setTop (mkF m 29 #[.val (.ref o0_), .val (.ref o1_), .val (.int (3 : Int32))] [])) _
    refine XS.goto X0.here hx rfl (pc0 := 29) (pc' := 9) rfl (hb hby d9_29) (by decide) (by decide) ?_
    show Steps p.tables e below (s₁.setTop (mkF m 9 #[.val (.ref o0_), .val (.ref o1_), .val (.int (3 : Int32))] [])) _
    refine XS.iloadN X0.here hx rfl (hb hby d9_9) rfl ?_
    show Steps p.tables e below (s₁.setTop (mkF m 10 #[.val (.ref o0_), .val (.ref o1_), .val (.int (3 : Int32))] [(.int (3 : Int32))])) _
    refine XS.aloadN X0.here hx rfl (hb hby d9_10) rfl rfl ?_
    show Steps p.tables e below (s₁.setTop (mkF m 11 #[.val (.ref o0_), .val (.ref o1_), .val (.int (3 : Int32))] [(.ref o0_), (.int (3 : Int32))])) _
    refine X0.arraylength hx (by rw [e0]; exact r19.1) (State.isArrayOf_alike hZ.alike r19.2.1) (g := (mkF m 11 #[.val (.ref o0_), .val (.ref o1_), .val (.int (3 : Int32))] [(.ref o0_), (.int (3 : Int32))])) rfl rfl (hb hby d9_11) _ ?_
    rw [len_of s19 z19]
    show Steps p.tables e below (s₁.setTop (mkF m 12 #[.val (.ref o0_), .val (.ref o1_), .val (.int (3 : Int32))] [(.int (7 : Int32)), (.int (3 : Int32))])) _
    refine XS.icmpNo X0.here hx rfl (hb hby d9_12) rfl (tlt (by decide : (3 : Int32) < (7 : Int32))).2.1 ?_
    show Steps p.tables e below (s₁.setTop (mkF m 15 #[.val (.ref o0_), .val (.ref o1_), .val (.int (3 : Int32))] [])) _
    refine XS.aloadN X0.here hx rfl (hb hby d9_15) rfl rfl ?_
    show Steps p.tables e below (s₁.setTop (mkF m 16 #[.val (.ref o0_), .val (.ref o1_), .val (.int (3 : Int32))] [(.ref o0_)])) _
    refine XS.iloadN X0.here hx rfl (hb hby d9_16) rfl ?_
    show Steps p.tables e below (s₁.setTop (mkF m 17 #[.val (.ref o0_), .val (.ref o1_), .val (.int (3 : Int32))] [(.int (3 : Int32)), (.ref o0_)])) _
    refine X0.baloadBytes hx (j := (3 : Int32)) (v := (.int (110 : Int32))) (by rw [e0]; exact r22.1) (State.isArrayOf_alike hZ.alike r22.2.1) r22.2.2 hin22 hat22 (g := (mkF m 17 #[.val (.ref o0_), .val (.ref o1_), .val (.int (3 : Int32))] [(.int (3 : Int32)), (.ref o0_)])) rfl rfl (hb hby d9_17) _ ?_
    show Steps p.tables e below (s₁.setTop (mkF m 18 #[.val (.ref o0_), .val (.ref o1_), .val (.int (3 : Int32))] [(.int (110 : Int32))])) _
    refine XS.aloadN X0.here hx rfl (hb hby d9_18) rfl rfl ?_
    show Steps p.tables e below (s₁.setTop (mkF m 19 #[.val (.ref o0_), .val (.ref o1_), .val (.int (3 : Int32))] [(.ref o1_), (.int (110 : Int32))])) _
    refine XS.iloadN X0.here hx rfl (hb hby d9_19) rfl ?_
    show Steps p.tables e below (s₁.setTop (mkF m 20 #[.val (.ref o0_), .val (.ref o1_), .val (.int (3 : Int32))] [(.int (3 : Int32)), (.ref o1_), (.int (110 : Int32))])) _
    refine X0.baloadBytes hx (j := (3 : Int32)) (v := (.int (110 : Int32))) (by rw [e0]; exact r23.1) (State.isArrayOf_alike hZ.alike r23.2.1) r23.2.2 hin23 hat23 (g := (mkF m 20 #[.val (.ref o0_), .val (.ref o1_), .val (.int (3 : Int32))] [(.int (3 : Int32)), (.ref o1_), (.int (110 : Int32))])) rfl rfl (hb hby d9_20) _ ?_
    show Steps p.tables e below (s₁.setTop (mkF m 21 #[.val (.ref o0_), .val (.ref o1_), .val (.int (3 : Int32))] [(.int (110 : Int32)), (.int (110 : Int32))])) _
    refine XS.icmpYes X0.here hx rfl (pc0 := 21) (pc' := 26) rfl (hb hby d9_21) rfl (teq (by decide : (110 : Int32) = (110 : Int32))).1 (by decide) (by decide) ?_
    show Steps p.tables e below (s₁.setTop (mkF m 26 #[.val (.ref o0_), .val (.ref o1_), .val (.int (3 : Int32))] [])) _
    refine XS.iinc X0.here hx rfl (hb hby d9_26) rfl (l' := #[.val (.ref o0_), .val (.ref o1_), .val (.int (4 : Int32))]) rfl ?_
    show Steps p.tables e below (s₁.setTop (mkF m 29 #[.val (.ref o0_), .val (.ref o1_), .val (.int (4 : Int32))] [])) _
    refine XS.goto X0.here hx rfl (pc0 := 29) (pc' := 9) rfl (hb hby d9_29) (by decide) (by decide) ?_
    show Steps p.tables e below (s₁.setTop (mkF m 9 #[.val (.ref o0_), .val (.ref o1_), .val (.int (4 : Int32))] [])) _
    refine XS.iloadN X0.here hx rfl (hb hby d9_9) rfl ?_
    show Steps p.tables e below (s₁.setTop (mkF m 10 #[.val (.ref o0_), .val (.ref o1_), .val (.int (4 : Int32))] [(.int (4 : Int32))])) _
    refine XS.aloadN X0.here hx rfl (hb hby d9_10) rfl rfl ?_
    show Steps p.tables e below (s₁.setTop (mkF m 11 #[.val (.ref o0_), .val (.ref o1_), .val (.int (4 : Int32))] [(.ref o0_), (.int (4 : Int32))])) _
    refine X0.arraylength hx (by rw [e0]; exact r24.1) (State.isArrayOf_alike hZ.alike r24.2.1) (g := (mkF m 11 #[.val (.ref o0_), .val (.ref o1_), .val (.int (4 : Int32))] [(.ref o0_), (.int (4 : Int32))])) rfl rfl (hb hby d9_11) _ ?_
    rw [len_of s24 z24]
    show Steps p.tables e below (s₁.setTop (mkF m 12 #[.val (.ref o0_), .val (.ref o1_), .val (.int (4 : Int32))] [(.int (7 : Int32)), (.int (4 : Int32))])) _
    refine XS.icmpNo X0.here hx rfl (hb hby d9_12) rfl (tlt (by decide : (4 : Int32) < (7 : Int32))).2.1 ?_
    show Steps p.tables e below (s₁.setTop (mkF m 15 #[.val (.ref o0_), .val (.ref o1_), .val (.int (4 : Int32))] [])) _
    refine XS.aloadN X0.here hx rfl (hb hby d9_15) rfl rfl ?_
    show Steps p.tables e below (s₁.setTop (mkF m 16 #[.val (.ref o0_), .val (.ref o1_), .val (.int (4 : Int32))] [(.ref o0_)])) _
    refine XS.iloadN X0.here hx rfl (hb hby d9_16) rfl ?_
    show Steps p.tables e below (s₁.setTop (mkF m 17 #[.val (.ref o0_), .val (.ref o1_), .val (.int (4 : Int32))] [(.int (4 : Int32)), (.ref o0_)])) _
    refine X0.baloadBytes hx (j := (4 : Int32)) (v := (.int (116 : Int32))) (by rw [e0]; exact r27.1) (State.isArrayOf_alike hZ.alike r27.2.1) r27.2.2 hin27 hat27 (g := (mkF m 17 #[.val (.ref o0_), .val (.ref o1_), .val (.int (4 : Int32))] [(.int (4 : Int32)), (.ref o0_)])) rfl rfl (hb hby d9_17) _ ?_
    show Steps p.tables e below (s₁.setTop (mkF m 18 #[.val (.ref o0_), .val (.ref o1_), .val (.int (4 : Int32))] [(.int (116 : Int32))])) _
    refine XS.aloadN X0.here hx rfl (hb hby d9_18) rfl rfl ?_
    show Steps p.tables e below (s₁.setTop (mkF m 19 #[.val (.ref o0_), .val (.ref o1_), .val (.int (4 : Int32))] [(.ref o1_), (.int (116 : Int32))])) _
    refine XS.iloadN X0.here hx rfl (hb hby d9_19) rfl ?_
    show Steps p.tables e below (s₁.setTop (mkF m 20 #[.val (.ref o0_), .val (.ref o1_), .val (.int (4 : Int32))] [(.int (4 : Int32)), (.ref o1_), (.int (116 : Int32))])) _
    refine X0.baloadBytes hx (j := (4 : Int32)) (v := (.int (116 : Int32))) (by rw [e0]; exact r28.1) (State.isArrayOf_alike hZ.alike r28.2.1) r28.2.2 hin28 hat28 (g := (mkF m 20 #[.val (.ref o0_), .val (.ref o1_), .val (.int (4 : Int32))] [(.int (4 : Int32)), (.ref o1_), (.int (116 : Int32))])) rfl rfl (hb hby d9_20) _ ?_
    show Steps p.tables e below (s₁.setTop (mkF m 21 #[.val (.ref o0_), .val (.ref o1_), .val (.int (4 : Int32))] [(.int (116 : Int32)), (.int (116 : Int32))])) _
    refine XS.icmpYes X0.here hx rfl (pc0 := 21) (pc' := 26) rfl (hb hby d9_21) rfl (teq (by decide : (116 : Int32) = (116 : Int32))).1 (by decide) (by decide) ?_
    show Steps p.tables e below (s₁.setTop (mkF m 26 #[.val (.ref o0_), .val (.ref o1_), .val (.int (4 : Int32))] [])) _
    refine XS.iinc X0.here hx rfl (hb hby d9_26) rfl (l' := #[.val (.ref o0_), .val (.ref o1_), .val (.int (5 : Int32))]) rfl ?_
    show Steps p.tables e below (s₁.setTop (mkF m 29 #[.val (.ref o0_), .val (.ref o1_), .val (.int (5 : Int32))] [])) _
    refine XS.goto X0.here hx rfl (pc0 := 29) (pc' := 9) rfl (hb hby d9_29) (by decide) (by decide) ?_
    show Steps p.tables e below (s₁.setTop (mkF m 9 #[.val (.ref o0_), .val (.ref o1_), .val (.int (5 : Int32))] [])) _
    refine XS.iloadN X0.here hx rfl (hb hby d9_9) rfl ?_
    show Steps p.tables e below (s₁.setTop (mkF m 10 #[.val (.ref o0_), .val (.ref o1_), .val (.int (5 : Int32))] [(.int (5 : Int32))])) _
    refine XS.aloadN X0.here hx rfl (hb hby d9_10) rfl rfl ?_
    show Steps p.tables e below (s₁.setTop (mkF m 11 #[.val (.ref o0_), .val (.ref o1_), .val (.int (5 : Int32))] [(.ref o0_), (.int (5 : Int32))])) _
    refine X0.arraylength hx (by rw [e0]; exact r29.1) (State.isArrayOf_alike hZ.alike r29.2.1) (g := (mkF m 11 #[.val (.ref o0_), .val (.ref o1_), .val (.int (5 : Int32))] [(.ref o0_), (.int (5 : Int32))])) rfl rfl (hb hby d9_11) _ ?_
    rw [len_of s29 z29]
    show Steps p.tables e below (s₁.setTop (mkF m 12 #[.val (.ref o0_), .val (.ref o1_), .val (.int (5 : Int32))] [(.int (7 : Int32)), (.int (5 : Int32))])) _
    refine XS.icmpNo X0.here hx rfl (hb hby d9_12) rfl (tlt (by decide : (5 : Int32) < (7 : Int32))).2.1 ?_
    show Steps p.tables e below (s₁.setTop (mkF m 15 #[.val (.ref o0_), .val (.ref o1_), .val (.int (5 : Int32))] [])) _
    refine XS.aloadN X0.here hx rfl (hb hby d9_15) rfl rfl ?_
    show Steps p.tables e below (s₁.setTop (mkF m 16 #[.val (.ref o0_), .val (.ref o1_), .val (.int (5 : Int32))] [(.ref o0_)])) _
    refine XS.iloadN X0.here hx rfl (hb hby d9_16) rfl ?_
    show Steps p.tables e below (s₁.setTop (mkF m 17 #[.val (.ref o0_), .val (.ref o1_), .val (.int (5 : Int32))] [(.int (5 : Int32)), (.ref o0_)])) _
    refine X0.baloadBytes hx (j := (5 : Int32)) (v := (.int (101 : Int32))) (by rw [e0]; exact r32.1) (State.isArrayOf_alike hZ.alike r32.2.1) r32.2.2 hin32 hat32 (g := (mkF m 17 #[.val (.ref o0_), .val (.ref o1_), .val (.int (5 : Int32))] [(.int (5 : Int32)), (.ref o0_)])) rfl rfl (hb hby d9_17) _ ?_
    show Steps p.tables e below (s₁.setTop (mkF m 18 #[.val (.ref o0_), .val (.ref o1_), .val (.int (5 : Int32))] [(.int (101 : Int32))])) _
    refine XS.aloadN X0.here hx rfl (hb hby d9_18) rfl rfl ?_
    show Steps p.tables e below (s₁.setTop (mkF m 19 #[.val (.ref o0_), .val (.ref o1_), .val (.int (5 : Int32))] [(.ref o1_), (.int (101 : Int32))])) _
    refine XS.iloadN X0.here hx rfl (hb hby d9_19) rfl ?_
    show Steps p.tables e below (s₁.setTop (mkF m 20 #[.val (.ref o0_), .val (.ref o1_), .val (.int (5 : Int32))] [(.int (5 : Int32)), (.ref o1_), (.int (101 : Int32))])) _
    refine X0.baloadBytes hx (j := (5 : Int32)) (v := (.int (101 : Int32))) (by rw [e0]; exact r33.1) (State.isArrayOf_alike hZ.alike r33.2.1) r33.2.2 hin33 hat33 (g := (mkF m 20 #[.val (.ref o0_), .val (.ref o1_), .val (.int (5 : Int32))] [(.int (5 : Int32)), (.ref o1_), (.int (101 : Int32))])) rfl rfl (hb hby d9_20) _ ?_
    show Steps p.tables e below (s₁.setTop (mkF m 21 #[.val (.ref o0_), .val (.ref o1_), .val (.int (5 : Int32))] [(.int (101 : Int32)), (.int (101 : Int32))])) _
    refine XS.icmpYes X0.here hx rfl (pc0 := 21) (pc' := 26) rfl (hb hby d9_21) rfl (teq (by decide : (101 : Int32) = (101 : Int32))).1 (by decide) (by decide) ?_
    show Steps p.tables e below (s₁.setTop (mkF m 26 #[.val (.ref o0_), .val (.ref o1_), .val (.int (5 : Int32))] [])) _
    refine XS.iinc X0.here hx rfl (hb hby d9_26) rfl (l' := #[.val (.ref o0_), .val (.ref o1_), .val (.int (6 : Int32))]) rfl ?_
    show Steps p.tables e below (s₁.setTop (mkF m 29 #[.val (.ref o0_), .val (.ref o1_), .val (.int (6 : Int32))] [])) _
    refine XS.goto X0.here hx rfl (pc0 := 29) (pc' := 9) rfl (hb hby d9_29) (by decide) (by decide) ?_
    show Steps p.tables e below (s₁.setTop (mkF m 9 #[.val (.ref o0_), .val (.ref o1_), .val (.int (6 : Int32))] [])) _
    refine XS.iloadN X0.here hx rfl (hb hby d9_9) rfl ?_
    show Steps p.tables e below (s₁.setTop (mkF m 10 #[.val (.ref o0_), .val (.ref o1_), .val (.int (6 : Int32))] [(.int (6 : Int32))])) _
    refine XS.aloadN X0.here hx rfl (hb hby d9_10) rfl rfl ?_
    show Steps p.tables e below (s₁.setTop (mkF m 11 #[.val (.ref o0_), .val (.ref o1_), .val (.int (6 : Int32))] [(.ref o0_), (.int (6 : Int32))])) _
    refine X0.arraylength hx (by rw [e0]; exact r34.1) (State.isArrayOf_alike hZ.alike r34.2.1) (g := (mkF m 11 #[.val (.ref o0_), .val (.ref o1_), .val (.int (6 : Int32))] [(.ref o0_), (.int (6 : Int32))])) rfl rfl (hb hby d9_11) _ ?_
    rw [len_of s34 z34]
    show Steps p.tables e below (s₁.setTop (mkF m 12 #[.val (.ref o0_), .val (.ref o1_), .val (.int (6 : Int32))] [(.int (7 : Int32)), (.int (6 : Int32))])) _
    refine XS.icmpNo X0.here hx rfl (hb hby d9_12) rfl (tlt (by decide : (6 : Int32) < (7 : Int32))).2.1 ?_
    show Steps p.tables e below (s₁.setTop (mkF m 15 #[.val (.ref o0_), .val (.ref o1_), .val (.int (6 : Int32))] [])) _
    refine XS.aloadN X0.here hx rfl (hb hby d9_15) rfl rfl ?_
    show Steps p.tables e below (s₁.setTop (mkF m 16 #[.val (.ref o0_), .val (.ref o1_), .val (.int (6 : Int32))] [(.ref o0_)])) _
    refine XS.iloadN X0.here hx rfl (hb hby d9_16) rfl ?_
    show Steps p.tables e below (s₁.setTop (mkF m 17 #[.val (.ref o0_), .val (.ref o1_), .val (.int (6 : Int32))] [(.int (6 : Int32)), (.ref o0_)])) _
    refine X0.baloadBytes hx (j := (6 : Int32)) (v := (.int (100 : Int32))) (by rw [e0]; exact r37.1) (State.isArrayOf_alike hZ.alike r37.2.1) r37.2.2 hin37 hat37 (g := (mkF m 17 #[.val (.ref o0_), .val (.ref o1_), .val (.int (6 : Int32))] [(.int (6 : Int32)), (.ref o0_)])) rfl rfl (hb hby d9_17) _ ?_
    show Steps p.tables e below (s₁.setTop (mkF m 18 #[.val (.ref o0_), .val (.ref o1_), .val (.int (6 : Int32))] [(.int (100 : Int32))])) _
    refine XS.aloadN X0.here hx rfl (hb hby d9_18) rfl rfl ?_
    show Steps p.tables e below (s₁.setTop (mkF m 19 #[.val (.ref o0_), .val (.ref o1_), .val (.int (6 : Int32))] [(.ref o1_), (.int (100 : Int32))])) _
    refine XS.iloadN X0.here hx rfl (hb hby d9_19) rfl ?_
    show Steps p.tables e below (s₁.setTop (mkF m 20 #[.val (.ref o0_), .val (.ref o1_), .val (.int (6 : Int32))] [(.int (6 : Int32)), (.ref o1_), (.int (100 : Int32))])) _
    refine X0.baloadBytes hx (j := (6 : Int32)) (v := (.int (100 : Int32))) (by rw [e0]; exact r38.1) (State.isArrayOf_alike hZ.alike r38.2.1) r38.2.2 hin38 hat38 (g := (mkF m 20 #[.val (.ref o0_), .val (.ref o1_), .val (.int (6 : Int32))] [(.int (6 : Int32)), (.ref o1_), (.int (100 : Int32))])) rfl rfl (hb hby d9_20) _ ?_
    show Steps p.tables e below (s₁.setTop (mkF m 21 #[.val (.ref o0_), .val (.ref o1_), .val (.int (6 : Int32))] [(.int (100 : Int32)), (.int (100 : Int32))])) _
    refine XS.icmpYes X0.here hx rfl (pc0 := 21) (pc' := 26) rfl (hb hby d9_21) rfl (teq (by decide : (100 : Int32) = (100 : Int32))).1 (by decide) (by decide) ?_
    show Steps p.tables e below (s₁.setTop (mkF m 26 #[.val (.ref o0_), .val (.ref o1_), .val (.int (6 : Int32))] [])) _
    refine XS.iinc X0.here hx rfl (hb hby d9_26) rfl (l' := #[.val (.ref o0_), .val (.ref o1_), .val (.int (7 : Int32))]) rfl ?_
    show Steps p.tables e below (s₁.setTop (mkF m 29 #[.val (.ref o0_), .val (.ref o1_), .val (.int (7 : Int32))] [])) _
    refine XS.goto X0.here hx rfl (pc0 := 29) (pc' := 9) rfl (hb hby d9_29) (by decide) (by decide) ?_
    show Steps p.tables e below (s₁.setTop (mkF m 9 #[.val (.ref o0_), .val (.ref o1_), .val (.int (7 : Int32))] [])) _
    refine XS.iloadN X0.here hx rfl (hb hby d9_9) rfl ?_
    show Steps p.tables e below (s₁.setTop (mkF m 10 #[.val (.ref o0_), .val (.ref o1_), .val (.int (7 : Int32))] [(.int (7 : Int32))])) _
    refine XS.aloadN X0.here hx rfl (hb hby d9_10) rfl rfl ?_
    show Steps p.tables e below (s₁.setTop (mkF m 11 #[.val (.ref o0_), .val (.ref o1_), .val (.int (7 : Int32))] [(.ref o0_), (.int (7 : Int32))])) _
    refine X0.arraylength hx (by rw [e0]; exact r39.1) (State.isArrayOf_alike hZ.alike r39.2.1) (g := (mkF m 11 #[.val (.ref o0_), .val (.ref o1_), .val (.int (7 : Int32))] [(.ref o0_), (.int (7 : Int32))])) rfl rfl (hb hby d9_11) _ ?_
    rw [len_of s39 z39]
    show Steps p.tables e below (s₁.setTop (mkF m 12 #[.val (.ref o0_), .val (.ref o1_), .val (.int (7 : Int32))] [(.int (7 : Int32)), (.int (7 : Int32))])) _
    refine XS.icmpYes X0.here hx rfl (pc0 := 12) (pc' := 32) rfl (hb hby d9_12) rfl (flt (by decide : ¬ ((7 : Int32) < (7 : Int32)))).2.1 (by decide) (by decide) ?_
    show Steps p.tables e below (s₁.setTop (mkF m 32 #[.val (.ref o0_), .val (.ref o1_), .val (.int (7 : Int32))] [])) _
    refine XS.iconst X0.here hx rfl (hb hby d9_32) ?_
    exact kt
  obtain ⟨fs, hr, hrun, hended, hW, hsame⟩ := X0.leave (v := some (.int (1 : Int32))) (fun h => by rw [Bd.returns] at h; cases h)
  refine ⟨_, _, pre41 _ (retN X0 hx (t := .boolean) Bd.returns (by simp) (hb hby d9_33) hr), hrun, hended, _, _, rfl, ?_, ⟨_, rfl⟩, hW, hsame.mono (by decide) (by decide)⟩
  show Qequals12 Z o0_ o1_ ko0_ ko1_ h0 n0 _ s₁.heap _
  rw [e0]
  exact ⟨rfl, N0, rfl⟩
theorem pd_6 : parseMethodDescriptor "([B[B)Z" = some ⟨[(.array .byte), (.array .byte)], some .boolean⟩ := by decide +kernel
theorem d8_47 : decode jdk_42_method_66_code 47 = .ok (.ifCond .eq 7, 3) := by decide +kernel
theorem d8_50 : decode jdk_42_method_66_code 50 = .ok (.iconst 1, 1) := by decide +kernel
theorem d8_51 : decode jdk_42_method_66_code 51 = .ok (.goto 4, 3) := by decide +kernel
theorem d8_55 : decode jdk_42_method_66_code 55 = .ok (.ireturn, 1) := by decide +kernel
theorem efequals11 (m : MethodId) (o0_ : Addr) (o1_ : Addr) : entryFrame m #[(.ref o0_), (.ref o1_)] 3 = mkF m 0 #[.val (.ref o0_), .val (.ref o1_), .unset] [] := by first | (simp [entryFrame, mkF, argsToLocals, Value.category]; done) | rfl
def Qequals11 (Z : State) (o0_ : Addr) (o1_ : Addr) (o2_ : Addr) (o3_ : Addr) (ko2_ : ClassId) (ko3_ : ClassId) (x0_ : Int32) (h0 : Heap) (n0 : Nat) (v : Option Value) (h : Heap) (L : List Loc) : Prop := v = some (.int (1 : Int32)) ∧ Fr n0 L ∧ h = h0
set_option maxRecDepth 65536 in
set_option maxHeartbeats 40000000 in
theorem rmequals11 (l : Launch) (Z : State) (a0 : Array Value) (hw : ∀ d ∈ tables_1, d.before a0 Z = true) (ws : List Jvm.Cond) (o0_ : Addr) (o1_ : Addr) (o2_ : Addr) (o3_ : Addr) (ko2_ : ClassId) (ko3_ : ClassId) (x0_ : Int32) (h0 : Heap) (n0 : Nat) (O0 : Old Z n0 h0) (P0 : Exa Z Z.heap o0_ "java/lang/String") (P1 : Fld Z Z.heap o0_ "java/lang/String" "value" "[B" (.ref o2_)) (P2 : Fld Z Z.heap o0_ "java/lang/String" "coder" "B" (.int (0 : Int32))) (P3 : Exa Z h0 o1_ "java/lang/String") (P4 : Fld Z h0 o1_ "java/lang/String" "coder" "B" (.int (0 : Int32))) (P5 : Fld Z h0 o1_ "java/lang/String" "value" "[B" (.ref o3_)) (P6 : Arv Z Z.heap o2_ ko2_ .byte (7 : Int32) [(.int (103 : Int32)), (.int (114 : Int32)), (.int (97 : Int32)), (.int (110 : Int32)), (.int (116 : Int32)), (.int (101 : Int32)), (.int (100 : Int32))] (.int (0 : Int32))) (P7 : Arv Z h0 o3_ ko3_ .byte (7 : Int32) [(.int (103 : Int32)), (.int (114 : Int32)), (.int (97 : Int32)), (.int (110 : Int32)), (.int (116 : Int32)), (.int (101 : Int32)), (.int (100 : Int32))] (.int (0 : Int32))) (P8 : Exa Z h0 o3_ "[B") (P9 : n0 ≤ o1_) (P10 : ¬ (x0_ = (0 : Int32))) (P11 : Sta Z Z.heap "java/lang/String" "COMPACT_STRINGS" "Z" (.int x0_)) :
    MetFree l (⟨"java/lang/String", "equals", "(Ljava/lang/Object;)Z"⟩ : MethodName) (head1 (Jvm.Cond.code (⟨"java/lang/String", "equals", "(Ljava/lang/Object;)Z"⟩ : MethodName) jdk_42_method_66_code 3 (some .boolean) :: ws) ({ frames := 1, cells := 0, slots := 0, locals := 14 } : Room)) (fun a U => a = #[(.ref o0_), (.ref o1_)] ∧ Z.Warmed39 U.vm ∧ U.heap = h0) (fun _ _ _ _ _ => True) (fun _ U o U' => ∃ v L, o = .returned v ∧ Qequals11 Z o0_ o1_ o2_ o3_ ko2_ ko3_ x0_ h0 n0 v U'.heap L ∧ FrameEnd U o U' L ({ frames := 1, cells := 0, slots := 0, locals := 14 } : Room).cells ({ frames := 1, cells := 0, slots := 0, locals := 14 } : Room).slots) := by
  refine MetFree.of_bodySF (plainFor_of_name pn_1) hisR ?_
  intro p e s m args below meth c s₁ Bd hml0 hP hK
  obtain ⟨rfl, hZ, hh⟩ := hP
  have hx := Bd.exec
  have hby := Bd.bytes
  have hml : c.maxLocals = 3 := hml0
  have hown : s.vm.findClass "java/lang/String" = some m.cls := findClass_of_methodNamed Bd.named
  have hnm := (name_of_methodNamed Bd.named Bd.method).1
  have X0 : Stand p l e ({ frames := 1, cells := 0, slots := 0, locals := 14 } : Room) s m #[(.ref o0_), (.ref o1_)] below meth c s₁ [] 0 0 := Stand.of_body Bd
  have e0 : s₁.heap = h0 := by rw [← hh, Bd.state]; rfl
  have N0 := Fr.nil n0
  have pre0 : ∀ t, Steps p.tables e below (s₁.setTop (mkF m 0 #[.val (.ref o0_), .val (.ref o1_), .unset] [])) t → Steps p.tables e below (s₁.setTop (entryFrame m #[(.ref o0_), (.ref o1_)] 3)) t := fun t k => castTop (efequals11 m o0_ o1_) k
  have K0 : Keep h0 h0 [] := Keep.refl _ _
  have ne1 : o0_ ≠ o1_ := O0.ne P0.lt P9
  obtain ⟨T2, X2, e2, st2⟩ := instY X0 hx hZ hown (hw _ (List.mem_of_getElem? (i := 61) rfl)) e0 (Ins.self P3) (g := (mkF m 8 #[.val (.ref o0_), .val (.ref o1_), .unset] [(.ref o1_)])) rfl rfl (hb hby d8_8)
  obtain ⟨T3, X3, e3, st3⟩ := castY X2 hx hZ hown (hw _ (List.mem_of_getElem? (i := 61) rfl)) e2 (Ins.self P3) (g := (mkF m 15 #[.val (.ref o0_), .val (.ref o1_), .unset] [(.ref o1_)])) rfl rfl (hb hby d8_15)
  obtain ⟨T4, X4, e4, st4⟩ := getS2 X3 hx hZ hown (host := "") (Or.inl (hw _ (List.mem_of_getElem? (i := 18) rfl))) Via.refl e3 (P11.ext O0.2) (g := (mkF m 19 #[.val (.ref o0_), .val (.ref o1_), .val (.ref o1_)] [])) rfl (hb hby d8_19)
  have f5 : Fld Z h0 o0_ "java/lang/String" "coder" "B" (.int (0 : Int32)) := P2.ext O0.2
  obtain ⟨T6, X6, e6, st6⟩ := getF X4 hx hZ hown (host := "") (Or.inl (hw _ (List.mem_of_getElem? (i := 30) rfl))) Via.refl e4 f5 (g := (mkF m 26 #[.val (.ref o0_), .val (.ref o1_), .val (.ref o1_)] [(.ref o0_)])) rfl rfl (hb hby d8_26)
  obtain ⟨T7, X7, e7, st7⟩ := getF X6 hx hZ hown (host := "") (Or.inl (hw _ (List.mem_of_getElem? (i := 30) rfl))) Via.refl e6 P4 (g := (mkF m 30 #[.val (.ref o0_), .val (.ref o1_), .val (.ref o1_)] [(.ref o1_), (.int (0 : Int32))])) rfl rfl (hb hby d8_30)
  have f8 : Fld Z h0 o0_ "java/lang/String" "value" "[B" (.ref o2_) := P1.ext O0.2
  obtain ⟨T9, X9, e9, st9⟩ := getF X7 hx hZ hown (host := "") (Or.inl (hw _ (List.mem_of_getElem? (i := 32) rfl))) Via.refl e7 f8 (g := (mkF m 37 #[.val (.ref o0_), .val (.ref o1_), .val (.ref o1_)] [(.ref o0_)])) rfl rfl (hb hby d8_37)
  obtain ⟨T10, X10, e10, st10⟩ := getF X9 hx hZ hown (host := "") (Or.inl (hw _ (List.mem_of_getElem? (i := 32) rfl))) Via.refl e9 P5 (g := (mkF m 41 #[.val (.ref o0_), .val (.ref o1_), .val (.ref o1_)] [(.ref o1_), (.ref o2_)])) rfl rfl (hb hby d8_41)
  obtain ⟨_, _, ⟨T11, L11, k11, n11⟩, -, X11, ⟨Lc11, hQ11, l11, y11, z11⟩, st11⟩ := Jvm.LawKit.callS X10 hx (y := (⟨"java/lang/StringLatin1", "equals", "([B[B)Z"⟩ : MethodName)) hown (mvT hZ (hw _ (List.mem_of_getElem? (i := 62) rfl))) (mvT hZ (hw _ (List.mem_of_getElem? (i := 63) rfl))) (mvT hZ (hw _ (List.mem_of_getElem? (i := 64) rfl))) (mvT hZ (hw _ (List.mem_of_getElem? (i := 65) rfl))) (by decide) (backOf (W := 0) (rmequals12 l Z a0 hw [] o2_ o3_ ko2_ ko3_ h0 n0 O0 P6 P7 P8) hZ (hw _ (List.mem_of_getElem? (i := 65) rfl)) (hw _ (List.mem_of_getElem? (i := 64) rfl)) (by decide) (by decide)) (g := (mkF m 44 #[.val (.ref o0_), .val (.ref o1_), .val (.ref o1_)] [(.ref o3_), (.ref o2_)])) rfl (by rw [hml]; rfl) (argsL := [(.ref o2_), (.ref o3_)]) (rest := []) (lenOf pd_6 rfl) rfl (by show 2 * 0 + _ ≤ _; exact Nat.le_of_eq rfl) (hb hby d8_44) (fun _ _ => ⟨rfl, e10, (by decide : 0 + 0 ≤ _), (by decide : 0 + 0 ≤ _)⟩)
  dsimp only [Pt.U, Pt.locs, Pt.cells, Pt.slots] at X11 l11 y11 z11 st11 hQ11
  subst l11 y11 z11
  obtain ⟨h11, e11⟩ : ∃ z, T11.heap = z := ⟨_, rfl⟩
  rw [e11] at hQ11
  obtain ⟨rfl, N11q, hh11⟩ := hQ11
  have N12 := Fr.app N0 N11q
  have e11' : T11.heap = h0 := e11.trans hh11
  have pre13 : ∀ t, Steps p.tables e below (T11.setTop (mkF m 55 #[.val (.ref o0_), .val (.ref o1_), .val (.ref o1_)] [(.int (1 : Int32))])) t → Steps p.tables e below (s₁.setTop (entryFrame m #[(.ref o0_), (.ref o1_)] 3)) t := by
    intro t kt
    refine pre0 t ?_
    show Steps p.tables e below (s₁.setTop (mkF m 0 #[.val (.ref o0_), .val (.ref o1_), .unset] [])) _
    refine XS.aloadN X0.here hx rfl (hb hby d8_0) rfl rfl ?_
    show Steps p.tables e below (s₁.setTop (mkF m 1 #[.val (.ref o0_), .val (.ref o1_), .unset] [(.ref o0_)])) _
    refine XS.aloadN X0.here hx rfl (hb hby d8_1) rfl rfl ?_
    show Steps p.tables e below (s₁.setTop (mkF m 2 #[.val (.ref o0_), .val (.ref o1_), .unset] [(.ref o1_), (.ref o0_)])) _
    refine Jvm.RoadKit.acmp (g := (mkF m 2 #[.val (.ref o0_), .val (.ref o1_), .unset] [(.ref o1_), (.ref o0_)])) X0 hx rfl rfl rfl (pc0 := 2) (pc' := 7) (same := false) rfl (hb hby d8_2) rfl (decide_eq_false fun q => ne1 (Value.ref.inj q)) (by decide) (by decide) ?_
    show Steps p.tables e below (s₁.setTop (mkF m 7 #[.val (.ref o0_), .val (.ref o1_), .unset] [])) _
    refine XS.aloadN X0.here hx rfl (hb hby d8_7) rfl rfl ?_
    show Steps p.tables e below (s₁.setTop (mkF m 8 #[.val (.ref o0_), .val (.ref o1_), .unset] [(.ref o1_)])) _
    refine st2 _ ?_
    show Steps p.tables e below (T2.setTop (mkF m 11 #[.val (.ref o0_), .val (.ref o1_), .unset] [(.int (1 : Int32))])) _
    refine XS.ifNo X2.here hx rfl (hb hby d8_11) rfl ((if0 _ _).trans (feq (by decide : ¬ ((1 : Int32) = (0 : Int32)))).1) ?_
    show Steps p.tables e below (T2.setTop (mkF m 14 #[.val (.ref o0_), .val (.ref o1_), .unset] [])) _
    refine XS.aloadN X2.here hx rfl (hb hby d8_14) rfl rfl ?_
    show Steps p.tables e below (T2.setTop (mkF m 15 #[.val (.ref o0_), .val (.ref o1_), .unset] [(.ref o1_)])) _
    refine st3 _ ?_
    show Steps p.tables e below (T3.setTop (mkF m 18 #[.val (.ref o0_), .val (.ref o1_), .unset] [(.ref o1_)])) _
    refine XS.astoreN X3.here hx rfl (hb hby d8_18) rfl rfl (l' := #[.val (.ref o0_), .val (.ref o1_), .val (.ref o1_)]) rfl ?_
    show Steps p.tables e below (T3.setTop (mkF m 19 #[.val (.ref o0_), .val (.ref o1_), .val (.ref o1_)] [])) _
    refine st4 _ ?_
    show Steps p.tables e below (T4.setTop (mkF m 22 #[.val (.ref o0_), .val (.ref o1_), .val (.ref o1_)] [(.int x0_)])) _
    refine XS.ifNo X4.here hx rfl (hb hby d8_22) rfl ((if0 _ _).trans (feq P10).1) ?_
    show Steps p.tables e below (T4.setTop (mkF m 25 #[.val (.ref o0_), .val (.ref o1_), .val (.ref o1_)] [])) _
    refine XS.aloadN X4.here hx rfl (hb hby d8_25) rfl rfl ?_
    show Steps p.tables e below (T4.setTop (mkF m 26 #[.val (.ref o0_), .val (.ref o1_), .val (.ref o1_)] [(.ref o0_)])) _
    refine st6 _ ?_
    show Steps p.tables e below (T6.setTop (mkF m 29 #[.val (.ref o0_), .val (.ref o1_), .val (.ref o1_)] [(.int (0 : Int32))])) _
    refine XS.aloadN X6.here hx rfl (hb hby d8_29) rfl rfl ?_
    show Steps p.tables e below (T6.setTop (mkF m 30 #[.val (.ref o0_), .val (.ref o1_), .val (.ref o1_)] [(.ref o1_), (.int (0 : Int32))])) _
    refine st7 _ ?_
    show Steps p.tables e below (T7.setTop (mkF m 33 #[.val (.ref o0_), .val (.ref o1_), .val (.ref o1_)] [(.int (0 : Int32)), (.int (0 : Int32))])) _
    refine XS.icmpNo X7.here hx rfl (hb hby d8_33) rfl (teq (by decide : (0 : Int32) = (0 : Int32))).2 ?_
    show Steps p.tables e below (T7.setTop (mkF m 36 #[.val (.ref o0_), .val (.ref o1_), .val (.ref o1_)] [])) _
    refine XS.aloadN X7.here hx rfl (hb hby d8_36) rfl rfl ?_
    show Steps p.tables e below (T7.setTop (mkF m 37 #[.val (.ref o0_), .val (.ref o1_), .val (.ref o1_)] [(.ref o0_)])) _
    refine st9 _ ?_
    show Steps p.tables e below (T9.setTop (mkF m 40 #[.val (.ref o0_), .val (.ref o1_), .val (.ref o1_)] [(.ref o2_)])) _
    refine XS.aloadN X9.here hx rfl (hb hby d8_40) rfl rfl ?_
    show Steps p.tables e below (T9.setTop (mkF m 41 #[.val (.ref o0_), .val (.ref o1_), .val (.ref o1_)] [(.ref o1_), (.ref o2_)])) _
    refine st10 _ ?_
    show Steps p.tables e below (T10.setTop (mkF m 44 #[.val (.ref o0_), .val (.ref o1_), .val (.ref o1_)] [(.ref o3_), (.ref o2_)])) _
    refine st11 _ ?_
    show Steps p.tables e below (T11.setTop (mkF m 47 #[.val (.ref o0_), .val (.ref o1_), .val (.ref o1_)] [(.int (1 : Int32))])) _
    refine XS.ifNo X11.here hx rfl (hb hby d8_47) rfl ((if0 _ _).trans (feq (by decide : ¬ ((1 : Int32) = (0 : Int32)))).1) ?_
    show Steps p.tables e below (T11.setTop (mkF m 50 #[.val (.ref o0_), .val (.ref o1_), .val (.ref o1_)] [])) _
    refine XS.iconst X11.here hx rfl (hb hby d8_50) ?_
    show Steps p.tables e below (T11.setTop (mkF m 51 #[.val (.ref o0_), .val (.ref o1_), .val (.ref o1_)] [(.int (1 : Int32))])) _
    refine XS.goto X11.here hx rfl (pc0 := 51) (pc' := 55) rfl (hb hby d8_51) (by decide) (by decide) ?_
    exact kt
  obtain ⟨fs, hr, hrun, hended, hW, hsame⟩ := X11.leave (v := some (.int (1 : Int32))) (fun h => by rw [Bd.returns] at h; cases h)
  refine ⟨_, _, pre13 _ (retN X11 hx (t := .boolean) Bd.returns (by simp) (hb hby d8_55) hr), hrun, hended, _, _, rfl, ?_, ⟨_, rfl⟩, hW, hsame.mono (by decide) (by decide)⟩
  show Qequals11 Z o0_ o1_ o2_ o3_ ko2_ ko3_ x0_ h0 n0 _ T11.heap _
  rw [e11']
  exact ⟨rfl, N12, rfl⟩
theorem pd_7 : parseMethodDescriptor "(Ljava/lang/Object;)Z" = some ⟨[(.object "java/lang/Object")], some .boolean⟩ := by decide +kernel
theorem d6_28 : decode prog_29_method_5_code 28 = .ok (.ifCond .eq 6, 3) := by decide +kernel
theorem d6_31 : decode prog_29_method_5_code 31 = .ok (.aload 4, 2) := by decide +kernel
theorem d6_33 : decode prog_29_method_5_code 33 = .ok (.areturn, 1) := by decide +kernel
theorem efof7 (m : MethodId) (o0_ : Addr) : entryFrame m #[(.ref o0_)] 5 = mkF m 0 #[.val (.ref o0_), .unset, .unset, .unset, .unset] [] := by first | (simp [entryFrame, mkF, argsToLocals, Value.category]; done) | rfl
def Qof7 (Z : State) (o0_ : Addr) (o1_ : Addr) (ko1_ : ClassId) (o2_ : Addr) (ko2_ : ClassId) (o3_ : Addr) (o4_ : Addr) (o5_ : Addr) (o6_ : Addr) (o7_ : Addr) (o8_ : Addr) (o9_ : Addr) (o10_ : Addr) (o11_ : Addr) (ko9_ : ClassId) (ko10_ : ClassId) (ko11_ : ClassId) (x0_ : Int32) (h0 : Heap) (n0 : Nat) (v : Option Value) (h : Heap) (L : List Loc) : Prop := v = some (.ref o3_) ∧ Fr n0 L ∧ Keep h0 h []
set_option maxRecDepth 65536 in
set_option maxHeartbeats 40000000 in
theorem rmof7 (l : Launch) (Z : State) (a0 : Array Value) (hw : ∀ d ∈ tables_1, d.before a0 Z = true) (ws : List Jvm.Cond) (o0_ : Addr) (o1_ : Addr) (ko1_ : ClassId) (o2_ : Addr) (ko2_ : ClassId) (o3_ : Addr) (o4_ : Addr) (o5_ : Addr) (o6_ : Addr) (o7_ : Addr) (o8_ : Addr) (o9_ : Addr) (o10_ : Addr) (o11_ : Addr) (ko9_ : ClassId) (ko10_ : ClassId) (ko11_ : ClassId) (x0_ : Int32) (h0 : Heap) (n0 : Nat) (O0 : Old Z n0 h0) (P0 : Exa Z h0 o0_ "java/lang/String") (P1 : Fld Z h0 o0_ "java/lang/String" "coder" "B" (.int (0 : Int32))) (P2 : Fld Z h0 o0_ "java/lang/String" "value" "[B" (.ref o1_)) (P3 : Arv Z h0 o1_ ko1_ .byte (7 : Int32) [(.int (103 : Int32)), (.int (114 : Int32)), (.int (97 : Int32)), (.int (110 : Int32)), (.int (116 : Int32)), (.int (101 : Int32)), (.int (100 : Int32))] (.int (0 : Int32))) (P4 : Exa Z h0 o1_ "[B") (P5 : Exa Z Z.heap o2_ "[Lcom/example/aeacus/aeacus/log/Outcome;") (P6 : Arv Z Z.heap o2_ ko2_ (.object "com/example/aeacus/aeacus/log/Outcome") (3 : Int32) [(.ref o3_), (.ref o4_), (.ref o5_)] .null) (P7 : Exa Z Z.heap o3_ "com/example/aeacus/aeacus/log/Outcome") (P8 : Fld Z Z.heap o3_ "com/example/aeacus/aeacus/log/Outcome" "label" "Ljava/lang/String;" (.ref o6_)) (P9 : Exa Z Z.heap o4_ "com/example/aeacus/aeacus/log/Outcome") (P10 : Fld Z Z.heap o4_ "com/example/aeacus/aeacus/log/Outcome" "label" "Ljava/lang/String;" (.ref o7_)) (P11 : Exa Z Z.heap o5_ "com/example/aeacus/aeacus/log/Outcome") (P12 : Fld Z Z.heap o5_ "com/example/aeacus/aeacus/log/Outcome" "label" "Ljava/lang/String;" (.ref o8_)) (P13 : Exa Z Z.heap o6_ "java/lang/String") (P14 : Fld Z Z.heap o6_ "java/lang/String" "value" "[B" (.ref o9_)) (P15 : Fld Z Z.heap o6_ "java/lang/String" "coder" "B" (.int (0 : Int32))) (P16 : Exa Z Z.heap o7_ "java/lang/String") (P17 : Fld Z Z.heap o7_ "java/lang/String" "value" "[B" (.ref o10_)) (P18 : Fld Z Z.heap o7_ "java/lang/String" "coder" "B" (.int (0 : Int32))) (P19 : Exa Z Z.heap o8_ "java/lang/String") (P20 : Fld Z Z.heap o8_ "java/lang/String" "value" "[B" (.ref o11_)) (P21 : Fld Z Z.heap o8_ "java/lang/String" "coder" "B" (.int (0 : Int32))) (P22 : Arv Z Z.heap o9_ ko9_ .byte (7 : Int32) [(.int (103 : Int32)), (.int (114 : Int32)), (.int (97 : Int32)), (.int (110 : Int32)), (.int (116 : Int32)), (.int (101 : Int32)), (.int (100 : Int32))] (.int (0 : Int32))) (P23 : Arv Z Z.heap o10_ ko10_ .byte (7 : Int32) [(.int (114 : Int32)), (.int (101 : Int32)), (.int (102 : Int32)), (.int (117 : Int32)), (.int (115 : Int32)), (.int (101 : Int32)), (.int (100 : Int32))] (.int (0 : Int32))) (P24 : Arv Z Z.heap o11_ ko11_ .byte (6 : Int32) [(.int (102 : Int32)), (.int (97 : Int32)), (.int (105 : Int32)), (.int (108 : Int32)), (.int (101 : Int32)), (.int (100 : Int32))] (.int (0 : Int32))) (P25 : Sta Z Z.heap "com/example/aeacus/aeacus/log/Outcome" "$VALUES" "[Lcom/example/aeacus/aeacus/log/Outcome;" (.ref o2_)) (P26 : ¬ (x0_ = (0 : Int32))) (P27 : Sta Z Z.heap "java/lang/String" "COMPACT_STRINGS" "Z" (.int x0_)) (P28 : n0 ≤ o0_) :
    MetFree l (⟨"com/example/aeacus/aeacus/log/Outcome", "of", "(Ljava/lang/String;)Lcom/example/aeacus/aeacus/log/Outcome;"⟩ : MethodName) (head1 (Jvm.Cond.code (⟨"com/example/aeacus/aeacus/log/Outcome", "of", "(Ljava/lang/String;)Lcom/example/aeacus/aeacus/log/Outcome;"⟩ : MethodName) prog_29_method_5_code 5 (some (.object "com/example/aeacus/aeacus/log/Outcome")) :: ws) ({ frames := 2, cells := 1, slots := 3, locals := 28 } : Room)) (fun a U => a = #[(.ref o0_)] ∧ Z.Warmed39 U.vm ∧ U.heap = h0) (fun _ _ _ _ _ => True) (fun _ U o U' => ∃ v L, o = .returned v ∧ Qof7 Z o0_ o1_ ko1_ o2_ ko2_ o3_ o4_ o5_ o6_ o7_ o8_ o9_ o10_ o11_ ko9_ ko10_ ko11_ x0_ h0 n0 v U'.heap L ∧ FrameEnd U o U' L ({ frames := 2, cells := 1, slots := 3, locals := 28 } : Room).cells ({ frames := 2, cells := 1, slots := 3, locals := 28 } : Room).slots) := by
  refine MetFree.of_bodySF (plainFor_of_name pn_2) hisR ?_
  intro p e s m args below meth c s₁ Bd hml0 hP hK
  obtain ⟨rfl, hZ, hh⟩ := hP
  have hx := Bd.exec
  have hby := Bd.bytes
  have hml : c.maxLocals = 5 := hml0
  have hown : s.vm.findClass "com/example/aeacus/aeacus/log/Outcome" = some m.cls := findClass_of_methodNamed Bd.named
  have hnm := (name_of_methodNamed Bd.named Bd.method).1
  have X0 : Stand p l e ({ frames := 2, cells := 1, slots := 3, locals := 28 } : Room) s m #[(.ref o0_)] below meth c s₁ [] 0 0 := Stand.of_body Bd
  have e0 : s₁.heap = h0 := by rw [← hh, Bd.state]; rfl
  have N0 := Fr.nil n0
  have pre0 : ∀ t, Steps p.tables e below (s₁.setTop (mkF m 0 #[.val (.ref o0_), .unset, .unset, .unset, .unset] [])) t → Steps p.tables e below (s₁.setTop (entryFrame m #[(.ref o0_)] 5)) t := fun t k => castTop (efof7 m o0_) k
  have K0 : Keep h0 h0 [] := Keep.refl _ _
  obtain ⟨_, _, ⟨T1, L1, k1, n1⟩, -, X1, ⟨Lc1, hQ1, l1, y1, z1⟩, st1⟩ := Jvm.LawKit.callS X0 hx (y := (⟨"com/example/aeacus/aeacus/log/Outcome", "values", "()[Lcom/example/aeacus/aeacus/log/Outcome;"⟩ : MethodName)) hown (mvT hZ (hw _ (List.mem_of_getElem? (i := 37) rfl))) (mvT hZ (hw _ (List.mem_of_getElem? (i := 38) rfl))) (mvT hZ (hw _ (List.mem_of_getElem? (i := 2) rfl))) (mvT hZ (hw _ (List.mem_of_getElem? (i := 39) rfl))) (by decide) (backOf (W := 0) (rmvalues9 l Z a0 hw [] o2_ ko2_ o3_ o4_ o5_ o6_ o7_ o8_ o9_ o10_ o11_ ko9_ ko10_ ko11_ h0 n0 O0 P5 P6 P7 P8 P9 P10 P11 P12 P13 P14 P15 P16 P17 P18 P19 P20 P21 P22 P23 P24 P25) hZ (hw _ (List.mem_of_getElem? (i := 39) rfl)) (hw _ (List.mem_of_getElem? (i := 2) rfl)) (by decide) (by decide)) (g := (mkF m 0 #[.val (.ref o0_), .unset, .unset, .unset, .unset] [])) rfl (by rw [hml]; rfl) (argsL := []) (rest := []) (lenOf pd_5 rfl) rfl (by show 2 * 0 + _ ≤ _; exact Nat.le_of_eq rfl) (hb hby d6_0) (fun _ _ => ⟨rfl, e0, (by decide : 0 + 1 ≤ _), (by decide : 0 + 3 ≤ _)⟩)
  dsimp only [Pt.U, Pt.locs, Pt.cells, Pt.slots] at X1 l1 y1 z1 st1 hQ1
  subst l1 y1 z1
  obtain ⟨h1, e1⟩ : ∃ z, T1.heap = z := ⟨_, rfl⟩
  rw [e1] at hQ1
  obtain ⟨nb2_1, rfl, N1q, K1, sznb2_1, g1_0, g1_1⟩ := hQ1
  have N2 := Fr.app N0 N1q
  have ge3 : n0 ≤ nb2_1 := Nat.le_trans (Nat.le_trans (Nat.le_of_eq O0.1.symm) O0.2.1) sznb2_1
  have sz4 : h0.size ≤ nb2_1 := Nat.le_trans K0.1 sznb2_1
  obtain ⟨c5, r5, q5, s5, z5, y5, G5⟩ := id g1_0
  obtain ⟨c6, r6, q6, s6, z6, y6, G6⟩ := id g1_0
  have hin6 : ¬ ((0 : Int32) < 0 ∨ c6.slots.size ≤ ((0 : Int32)).toNatClampNeg) := inb_of s6 ⟨by decide, by decide⟩
  have hat6 : c6.slots[((0 : Int32)).toNatClampNeg]? = some (.ref o3_) := Has.at y6 hin6 rfl
  have f7 : Old Z n0 h1 := O0.keep K1 all0
  have f8 : Fld Z h1 o3_ "com/example/aeacus/aeacus/log/Outcome" "label" "Ljava/lang/String;" (.ref o6_) := P8.ext f7.2
  obtain ⟨T9, X9, e9, st9⟩ := getF X1 hx hZ hown (host := "") (Or.inl (hw _ (List.mem_of_getElem? (i := 54) rfl))) Via.refl e1 f8 (g := (mkF m 21 #[.val (.ref o0_), .val (.ref nb2_1), .val (.int (3 : Int32)), .val (.int (0 : Int32)), .val (.ref o3_)] [(.ref o3_)])) rfl rfl (hb hby d6_21)
  have f11 : Exa Z h1 o0_ "java/lang/String" := P0.keep K1
  have f12 : Fld Z h1 o0_ "java/lang/String" "coder" "B" (.int (0 : Int32)) := P1.keep K1 nin0
  have f13 : Fld Z h1 o0_ "java/lang/String" "value" "[B" (.ref o1_) := P2.keep K1 nin0
  have f14 : Arv Z h1 o1_ ko1_ .byte (7 : Int32) [(.int (103 : Int32)), (.int (114 : Int32)), (.int (97 : Int32)), (.int (110 : Int32)), (.int (116 : Int32)), (.int (101 : Int32)), (.int (100 : Int32))] (.int (0 : Int32)) := P3.keep K1 nin0
  have f15 : Exa Z h1 o1_ "[B" := P4.keep K1
  have f16 : Exa Z h1 o6_ "java/lang/String" := P13.ext f7.2
  obtain ⟨cq10, kq10, q10a, q10b, q10c⟩ := isOf hZ e9 f16
  obtain ⟨_, _, ⟨T10, L10, k10, n10⟩, -, X10, ⟨Lc10, hQ10, l10, y10, z10⟩, st10⟩ := X9.virtualBack hx (y := (⟨"java/lang/String", "equals", "(Ljava/lang/Object;)Z"⟩ : MethodName)) (z := (⟨"java/lang/String", "equals", "(Ljava/lang/Object;)Z"⟩ : MethodName)) hown (mvT hZ (hw _ (List.mem_of_getElem? (i := 56) rfl))) (mvT hZ (hw _ (List.mem_of_getElem? (i := 57) rfl))) (notFace_of_selects (args := #[]) (mvT hZ (hw _ (List.mem_of_getElem? (i := 59) rfl)))) (mvT hZ (hw _ (List.mem_of_getElem? (i := 59) rfl))) (mvT hZ (hw _ (List.mem_of_getElem? (i := 58) rfl))) (by decide) (backOf (W := 0) (rmequals11 l Z a0 hw [] o6_ o0_ o9_ o1_ ko9_ ko1_ x0_ h1 n0 f7 P13 P14 P15 f11 f12 f13 P22 f14 f15 P28 P26 P27) hZ (hw _ (List.mem_of_getElem? (i := 60) rfl)) (hw _ (List.mem_of_getElem? (i := 7) rfl)) (by decide) (by decide)) q10a q10c (g := (mkF m 25 #[.val (.ref o0_), .val (.ref nb2_1), .val (.int (3 : Int32)), .val (.int (0 : Int32)), .val (.ref o3_)] [(.ref o0_), (.ref o6_)])) rfl (by rw [hml]; rfl) (Steps.refl _) (argsL := [(.ref o0_)]) (rest := []) (lenOf pd_7 rfl) rfl (by show 2 * 0 + _ ≤ _; exact Nat.le_of_eq rfl) (hb hby d6_25) (fun _ _ => ⟨rfl, e9, (by decide : 1 + 0 ≤ _), (by decide : 3 + 0 ≤ _)⟩)
  dsimp only [Pt.U, Pt.locs, Pt.cells, Pt.slots] at X10 l10 y10 z10 st10 hQ10
  subst l10 y10 z10
  obtain ⟨h10, e10⟩ : ∃ z, T10.heap = z := ⟨_, rfl⟩
  rw [e10] at hQ10
  obtain ⟨rfl, N10q, hh10⟩ := hQ10
  have N17 := Fr.app N2 N10q
  have e10' : T10.heap = h1 := e10.trans hh10
  have pre18 : ∀ t, Steps p.tables e below (T10.setTop (mkF m 33 #[.val (.ref o0_), .val (.ref nb2_1), .val (.int (3 : Int32)), .val (.int (0 : Int32)), .val (.ref o3_)] [(.ref o3_)])) t → Steps p.tables e below (s₁.setTop (entryFrame m #[(.ref o0_)] 5)) t := by
    intro t kt
    refine pre0 t ?_
    show Steps p.tables e below (s₁.setTop (mkF m 0 #[.val (.ref o0_), .unset, .unset, .unset, .unset] [])) _
    refine st1 _ ?_
    show Steps p.tables e below (T1.setTop (mkF m 3 #[.val (.ref o0_), .unset, .unset, .unset, .unset] [(.ref nb2_1)])) _
    refine XS.astoreN X1.here hx rfl (hb hby d6_3) rfl rfl (l' := #[.val (.ref o0_), .val (.ref nb2_1), .unset, .unset, .unset]) rfl ?_
    show Steps p.tables e below (T1.setTop (mkF m 4 #[.val (.ref o0_), .val (.ref nb2_1), .unset, .unset, .unset] [])) _
    refine XS.aloadN X1.here hx rfl (hb hby d6_4) rfl rfl ?_
    show Steps p.tables e below (T1.setTop (mkF m 5 #[.val (.ref o0_), .val (.ref nb2_1), .unset, .unset, .unset] [(.ref nb2_1)])) _
    refine X1.arraylength hx (by rw [e1]; exact r5.1) (State.isArrayOf_alike hZ.alike r5.2.1) (g := (mkF m 5 #[.val (.ref o0_), .val (.ref nb2_1), .unset, .unset, .unset] [(.ref nb2_1)])) rfl rfl (hb hby d6_5) _ ?_
    rw [len_of s5 z5]
    show Steps p.tables e below (T1.setTop (mkF m 6 #[.val (.ref o0_), .val (.ref nb2_1), .unset, .unset, .unset] [(.int (3 : Int32))])) _
    refine XS.istoreN X1.here hx rfl (hb hby d6_6) rfl (l' := #[.val (.ref o0_), .val (.ref nb2_1), .val (.int (3 : Int32)), .unset, .unset]) rfl ?_
    show Steps p.tables e below (T1.setTop (mkF m 7 #[.val (.ref o0_), .val (.ref nb2_1), .val (.int (3 : Int32)), .unset, .unset] [])) _
    refine XS.iconst X1.here hx rfl (hb hby d6_7) ?_
    show Steps p.tables e below (T1.setTop (mkF m 8 #[.val (.ref o0_), .val (.ref nb2_1), .val (.int (3 : Int32)), .unset, .unset] [(.int (0 : Int32))])) _
    refine XS.istoreN X1.here hx rfl (hb hby d6_8) rfl (l' := #[.val (.ref o0_), .val (.ref nb2_1), .val (.int (3 : Int32)), .val (.int (0 : Int32)), .unset]) rfl ?_
    show Steps p.tables e below (T1.setTop (mkF m 9 #[.val (.ref o0_), .val (.ref nb2_1), .val (.int (3 : Int32)), .val (.int (0 : Int32)), .unset] [])) _
    refine XS.iloadN X1.here hx rfl (hb hby d6_9) rfl ?_
    show Steps p.tables e below (T1.setTop (mkF m 10 #[.val (.ref o0_), .val (.ref nb2_1), .val (.int (3 : Int32)), .val (.int (0 : Int32)), .unset] [(.int (0 : Int32))])) _
    refine XS.iloadN X1.here hx rfl (hb hby d6_10) rfl ?_
    show Steps p.tables e below (T1.setTop (mkF m 11 #[.val (.ref o0_), .val (.ref nb2_1), .val (.int (3 : Int32)), .val (.int (0 : Int32)), .unset] [(.int (3 : Int32)), (.int (0 : Int32))])) _
    refine XS.icmpNo X1.here hx rfl (hb hby d6_11) rfl (tlt (by decide : (0 : Int32) < (3 : Int32))).2.1 ?_
    show Steps p.tables e below (T1.setTop (mkF m 14 #[.val (.ref o0_), .val (.ref nb2_1), .val (.int (3 : Int32)), .val (.int (0 : Int32)), .unset] [])) _
    refine XS.aloadN X1.here hx rfl (hb hby d6_14) rfl rfl ?_
    show Steps p.tables e below (T1.setTop (mkF m 15 #[.val (.ref o0_), .val (.ref nb2_1), .val (.int (3 : Int32)), .val (.int (0 : Int32)), .unset] [(.ref nb2_1)])) _
    refine XS.iloadN X1.here hx rfl (hb hby d6_15) rfl ?_
    show Steps p.tables e below (T1.setTop (mkF m 16 #[.val (.ref o0_), .val (.ref nb2_1), .val (.int (3 : Int32)), .val (.int (0 : Int32)), .unset] [(.int (0 : Int32)), (.ref nb2_1)])) _
    refine X1.aaload hx (j := (0 : Int32)) (v := (.ref o3_)) (by rw [e1]; exact r6.1) (State.isArrayOf_alike hZ.alike r6.2.1) rfl r6.2.2 hin6 hat6 (g := (mkF m 16 #[.val (.ref o0_), .val (.ref nb2_1), .val (.int (3 : Int32)), .val (.int (0 : Int32)), .unset] [(.int (0 : Int32)), (.ref nb2_1)])) rfl rfl (hb hby d6_16) _ ?_
    show Steps p.tables e below (T1.setTop (mkF m 17 #[.val (.ref o0_), .val (.ref nb2_1), .val (.int (3 : Int32)), .val (.int (0 : Int32)), .unset] [(.ref o3_)])) _
    refine XS.astore X1.here hx rfl (hb hby d6_17) rfl rfl (l' := #[.val (.ref o0_), .val (.ref nb2_1), .val (.int (3 : Int32)), .val (.int (0 : Int32)), .val (.ref o3_)]) rfl ?_
    show Steps p.tables e below (T1.setTop (mkF m 19 #[.val (.ref o0_), .val (.ref nb2_1), .val (.int (3 : Int32)), .val (.int (0 : Int32)), .val (.ref o3_)] [])) _
    refine XS.aload X1.here hx rfl (hb hby d6_19) rfl rfl ?_
    show Steps p.tables e below (T1.setTop (mkF m 21 #[.val (.ref o0_), .val (.ref nb2_1), .val (.int (3 : Int32)), .val (.int (0 : Int32)), .val (.ref o3_)] [(.ref o3_)])) _
    refine st9 _ ?_
    show Steps p.tables e below (T9.setTop (mkF m 24 #[.val (.ref o0_), .val (.ref nb2_1), .val (.int (3 : Int32)), .val (.int (0 : Int32)), .val (.ref o3_)] [(.ref o6_)])) _
    refine XS.aloadN X9.here hx rfl (hb hby d6_24) rfl rfl ?_
    show Steps p.tables e below (T9.setTop (mkF m 25 #[.val (.ref o0_), .val (.ref nb2_1), .val (.int (3 : Int32)), .val (.int (0 : Int32)), .val (.ref o3_)] [(.ref o0_), (.ref o6_)])) _
    refine st10.trans ?_
    show Steps p.tables e below (T10.setTop (mkF m 28 #[.val (.ref o0_), .val (.ref nb2_1), .val (.int (3 : Int32)), .val (.int (0 : Int32)), .val (.ref o3_)] [(.int (1 : Int32))])) _
    refine XS.ifNo X10.here hx rfl (hb hby d6_28) rfl ((if0 _ _).trans (feq (by decide : ¬ ((1 : Int32) = (0 : Int32)))).1) ?_
    show Steps p.tables e below (T10.setTop (mkF m 31 #[.val (.ref o0_), .val (.ref nb2_1), .val (.int (3 : Int32)), .val (.int (0 : Int32)), .val (.ref o3_)] [])) _
    refine XS.aload X10.here hx rfl (hb hby d6_31) rfl rfl ?_
    exact kt
  have f20 : Keep h0 h1 [] := K0.trans K1 all0
  obtain ⟨fs, hr, hrun, hended, hW, hsame⟩ := X10.leave (v := some (.ref o3_)) (fun h => by rw [Bd.returns] at h; cases h)
  refine ⟨_, _, pre18 _ (retOut X10 hx Bd.returns rfl (Or.inr (Or.inr (Or.inr (Or.inr ⟨rfl, rfl, rfl⟩)))) (hb hby d6_33) hr), hrun, hended, _, _, rfl, ?_, ⟨_, rfl⟩, hW, hsame.mono (by decide) (by decide)⟩
  show Qof7 Z o0_ o1_ ko1_ o2_ ko2_ o3_ o4_ o5_ o6_ o7_ o8_ o9_ o10_ o11_ ko9_ ko10_ ko11_ x0_ h0 n0 _ T10.heap _
  rw [e10']
  exact ⟨rfl, N17, f20⟩
theorem pd_8 : parseMethodDescriptor "(Ljava/lang/String;)Lcom/example/aeacus/aeacus/log/Outcome;" = some ⟨[(.object "java/lang/String")], some (.object "com/example/aeacus/aeacus/log/Outcome")⟩ := by decide +kernel
theorem d10_0 : decode prog_29_method_4_code 0 = .ok (.aload_n 0, 1) := by decide +kernel
theorem d10_1 : decode prog_29_method_4_code 1 = .ok (.getfield 32, 3) := by decide +kernel
theorem d10_4 : decode prog_29_method_4_code 4 = .ok (.areturn, 1) := by decide +kernel
theorem eflabel13 (m : MethodId) (o0_ : Addr) : entryFrame m #[(.ref o0_)] 1 = mkF m 0 #[.val (.ref o0_)] [] := by first | (simp [entryFrame, mkF, argsToLocals, Value.category]; done) | rfl
def Qlabel13 (Z : State) (o0_ : Addr) (o1_ : Addr) (o2_ : Addr) (ko2_ : ClassId) (h0 : Heap) (n0 : Nat) (v : Option Value) (h : Heap) (L : List Loc) : Prop := v = some (.ref o1_) ∧ Fr n0 L ∧ h = h0
set_option maxRecDepth 65536 in
set_option maxHeartbeats 40000000 in
theorem rmlabel13 (l : Launch) (Z : State) (a0 : Array Value) (hw : ∀ d ∈ tables_1, d.before a0 Z = true) (ws : List Jvm.Cond) (o0_ : Addr) (o1_ : Addr) (o2_ : Addr) (ko2_ : ClassId) (h0 : Heap) (n0 : Nat) (O0 : Old Z n0 h0) (P0 : Exa Z Z.heap o0_ "com/example/aeacus/aeacus/log/Outcome") (P1 : Fld Z Z.heap o0_ "com/example/aeacus/aeacus/log/Outcome" "label" "Ljava/lang/String;" (.ref o1_)) (P2 : Exa Z Z.heap o1_ "java/lang/String") (P3 : Fld Z Z.heap o1_ "java/lang/String" "value" "[B" (.ref o2_)) (P4 : Fld Z Z.heap o1_ "java/lang/String" "coder" "B" (.int (0 : Int32))) (P5 : Arv Z Z.heap o2_ ko2_ .byte (7 : Int32) [(.int (103 : Int32)), (.int (114 : Int32)), (.int (97 : Int32)), (.int (110 : Int32)), (.int (116 : Int32)), (.int (101 : Int32)), (.int (100 : Int32))] (.int (0 : Int32))) :
    MetFree l (⟨"com/example/aeacus/aeacus/log/Outcome", "label", "()Ljava/lang/String;"⟩ : MethodName) (head1 (Jvm.Cond.code (⟨"com/example/aeacus/aeacus/log/Outcome", "label", "()Ljava/lang/String;"⟩ : MethodName) prog_29_method_4_code 1 (some (.object "java/lang/String")) :: ws) ({ frames := 0, cells := 0, slots := 0, locals := 0 } : Room)) (fun a U => a = #[(.ref o0_)] ∧ Z.Warmed39 U.vm ∧ U.heap = h0) (fun _ _ _ _ _ => True) (fun _ U o U' => ∃ v L, o = .returned v ∧ Qlabel13 Z o0_ o1_ o2_ ko2_ h0 n0 v U'.heap L ∧ FrameEnd U o U' L ({ frames := 0, cells := 0, slots := 0, locals := 0 } : Room).cells ({ frames := 0, cells := 0, slots := 0, locals := 0 } : Room).slots) := by
  refine MetFree.of_bodySF (plainFor_of_name pn_2) hisR ?_
  intro p e s m args below meth c s₁ Bd hml0 hP hK
  obtain ⟨rfl, hZ, hh⟩ := hP
  have hx := Bd.exec
  have hby := Bd.bytes
  have hml : c.maxLocals = 1 := hml0
  have hown : s.vm.findClass "com/example/aeacus/aeacus/log/Outcome" = some m.cls := findClass_of_methodNamed Bd.named
  have hnm := (name_of_methodNamed Bd.named Bd.method).1
  have X0 : Stand p l e ({ frames := 0, cells := 0, slots := 0, locals := 0 } : Room) s m #[(.ref o0_)] below meth c s₁ [] 0 0 := Stand.of_body Bd
  have e0 : s₁.heap = h0 := by rw [← hh, Bd.state]; rfl
  have N0 := Fr.nil n0
  have pre0 : ∀ t, Steps p.tables e below (s₁.setTop (mkF m 0 #[.val (.ref o0_)] [])) t → Steps p.tables e below (s₁.setTop (entryFrame m #[(.ref o0_)] 1)) t := fun t k => castTop (eflabel13 m o0_) k
  have K0 : Keep h0 h0 [] := Keep.refl _ _
  have f1 : Fld Z h0 o0_ "com/example/aeacus/aeacus/log/Outcome" "label" "Ljava/lang/String;" (.ref o1_) := P1.ext O0.2
  obtain ⟨T2, X2, e2, st2⟩ := getF X0 hx hZ hown (host := "") (Or.inl (hw _ (List.mem_of_getElem? (i := 54) rfl))) Via.refl e0 f1 (g := (mkF m 1 #[.val (.ref o0_)] [(.ref o0_)])) rfl rfl (hb hby d10_1)
  have pre3 : ∀ t, Steps p.tables e below (T2.setTop (mkF m 4 #[.val (.ref o0_)] [(.ref o1_)])) t → Steps p.tables e below (s₁.setTop (entryFrame m #[(.ref o0_)] 1)) t := by
    intro t kt
    refine pre0 t ?_
    show Steps p.tables e below (s₁.setTop (mkF m 0 #[.val (.ref o0_)] [])) _
    refine XS.aloadN X0.here hx rfl (hb hby d10_0) rfl rfl ?_
    show Steps p.tables e below (s₁.setTop (mkF m 1 #[.val (.ref o0_)] [(.ref o0_)])) _
    refine st2 _ ?_
    exact kt
  obtain ⟨fs, hr, hrun, hended, hW, hsame⟩ := X2.leave (v := some (.ref o1_)) (fun h => by rw [Bd.returns] at h; cases h)
  refine ⟨_, _, pre3 _ (retOut X2 hx Bd.returns rfl (Or.inr (Or.inr (Or.inr (Or.inr ⟨rfl, rfl, rfl⟩)))) (hb hby d10_4) hr), hrun, hended, _, _, rfl, ?_, ⟨_, rfl⟩, hW, hsame.mono (by decide) (by decide)⟩
  show Qlabel13 Z o0_ o1_ o2_ ko2_ h0 n0 _ T2.heap _
  rw [e2]
  exact ⟨rfl, N0, rfl⟩
theorem pd_9 : parseMethodDescriptor "()Ljava/lang/String;" = some ⟨[], some (.object "java/lang/String")⟩ := by decide +kernel
theorem efcompress18 (m : MethodId) (o0_ : Addr) (o1_ : Addr) : entryFrame m #[(.ref o0_), (.int (0 : Int32)), (.ref o1_), (.int (0 : Int32)), (.int (7 : Int32))] 7 = mkF m 0 #[.val (.ref o0_), .val (.int (0 : Int32)), .val (.ref o1_), .val (.int (0 : Int32)), .val (.int (7 : Int32)), .unset, .unset] [] := by first | (simp [entryFrame, mkF, argsToLocals, Value.category]; done) | rfl
def Qcompress18 (Z : State) (o0_ : Addr) (o1_ : Addr) (ko0_ : ClassId) (ko1_ : ClassId) (h0 : Heap) (n0 : Nat) (v : Option Value) (h : Heap) (L : List Loc) : Prop := v = some (.int (7 : Int32)) ∧ Fr n0 L ∧ Keep h0 h [o1_] ∧ Arv Z h o1_ ko1_ .byte (7 : Int32) [(.int (114 : Int32)), (.int (101 : Int32)), (.int (102 : Int32)), (.int (117 : Int32)), (.int (115 : Int32)), (.int (101 : Int32)), (.int (100 : Int32))] (.int (0 : Int32)) ∧ Exa Z h o1_ "[B"
set_option maxRecDepth 65536 in
set_option maxHeartbeats 40000000 in
theorem rmcompress18 (l : Launch) (Z : State) (a0 : Array Value) (hw : ∀ d ∈ tables_1, d.before a0 Z = true) (ws : List Jvm.Cond) (o0_ : Addr) (o1_ : Addr) (ko0_ : ClassId) (ko1_ : ClassId) (h0 : Heap) (n0 : Nat) (O0 : Old Z n0 h0) (P0 : Arv Z h0 o0_ ko0_ .char (7 : Int32) [(.int (114 : Int32)), (.int (101 : Int32)), (.int (102 : Int32)), (.int (117 : Int32)), (.int (115 : Int32)), (.int (101 : Int32)), (.int (100 : Int32))] (.int (0 : Int32))) (P1 : Exa Z h0 o0_ "[C") (P2 : Arv Z h0 o1_ ko1_ .byte (7 : Int32) [(.int (0 : Int32)), (.int (0 : Int32)), (.int (0 : Int32)), (.int (0 : Int32)), (.int (0 : Int32)), (.int (0 : Int32)), (.int (0 : Int32))] (.int (0 : Int32))) (P3 : Exa Z h0 o1_ "[B") (P4 : n0 ≤ o1_) (P5 : o0_ ≠ o1_) :
    MetFree l (⟨"java/lang/StringUTF16", "compress", "([CI[BII)I"⟩ : MethodName) (head1 (Jvm.Cond.code (⟨"java/lang/StringUTF16", "compress", "([CI[BII)I"⟩ : MethodName) jdk_52_method_21_code 7 (some .int) :: ws) ({ frames := 0, cells := 0, slots := 0, locals := 0 } : Room)) (fun a U => a = #[(.ref o0_), (.int (0 : Int32)), (.ref o1_), (.int (0 : Int32)), (.int (7 : Int32))] ∧ Z.Warmed39 U.vm ∧ U.heap = h0) (fun _ _ _ _ _ => True) (fun _ U o U' => ∃ v L, o = .returned v ∧ Qcompress18 Z o0_ o1_ ko0_ ko1_ h0 n0 v U'.heap L ∧ FrameEnd U o U' L ({ frames := 0, cells := 0, slots := 0, locals := 0 } : Room).cells ({ frames := 0, cells := 0, slots := 0, locals := 0 } : Room).slots) := by
  refine MetFree.of_bodySF (plainFor_of_name pn_0) hisR ?_
  intro p e s m args below meth c s₁ Bd hml0 hP hK
  obtain ⟨rfl, hZ, hh⟩ := hP
  have hx := Bd.exec
  have hby := Bd.bytes
  have hml : c.maxLocals = 7 := hml0
  have hown : s.vm.findClass "java/lang/StringUTF16" = some m.cls := findClass_of_methodNamed Bd.named
  have hnm := (name_of_methodNamed Bd.named Bd.method).1
  have X0 : Stand p l e ({ frames := 0, cells := 0, slots := 0, locals := 0 } : Room) s m #[(.ref o0_), (.int (0 : Int32)), (.ref o1_), (.int (0 : Int32)), (.int (7 : Int32))] below meth c s₁ [] 0 0 := Stand.of_body Bd
  have e0 : s₁.heap = h0 := by rw [← hh, Bd.state]; rfl
  have N0 := Fr.nil n0
  have pre0 : ∀ t, Steps p.tables e below (s₁.setTop (mkF m 0 #[.val (.ref o0_), .val (.int (0 : Int32)), .val (.ref o1_), .val (.int (0 : Int32)), .val (.int (7 : Int32)), .unset, .unset] [])) t → Steps p.tables e below (s₁.setTop (entryFrame m #[(.ref o0_), (.int (0 : Int32)), (.ref o1_), (.int (0 : Int32)), (.int (7 : Int32))] 7)) t := fun t k => castTop (efcompress18 m o0_ o1_) k
  have K0 : Keep h0 h0 [o1_] := Keep.refl _ _
  obtain ⟨c1, r1, q1, s1, z1, y1, G1⟩ := id P0
  have hin1 : ¬ ((0 : Int32) < 0 ∨ c1.slots.size ≤ ((0 : Int32)).toNatClampNeg) := inb_of s1 ⟨by decide, by decide⟩
  have hat1 : c1.slots[((0 : Int32)).toNatClampNeg]? = some (.int (114 : Int32)) := Has.at y1 hin1 rfl
  obtain ⟨c2, r2, q2, s2, z2, y2, G2⟩ := id P2
  have hin2 : ¬ ((0 : Int32) < 0 ∨ c2.slots.size ≤ ((0 : Int32)).toNatClampNeg) := inb_of s2 ⟨by decide, by decide⟩
  obtain ⟨T2, h2, X2, e2, W2, st2⟩ := stB X0 hx hZ e0 r2 (j := (0 : Int32)) hin2 (g := (mkF m 31 #[.val (.ref o0_), .val (.int (0 : Int32)), .val (.ref o1_), .val (.int (0 : Int32)), .val (.int (7 : Int32)), .val (.int (0 : Int32)), .val (.int (114 : Int32))] [(.int (114 : Int32)), (.int (0 : Int32)), (.ref o1_)])) rfl rfl (hb hby d4_31)
  have N3 := Fr.snoc X2 N0 P4
  have f4 : Arv Z h2 o1_ ko1_ .byte (7 : Int32) [(.int ((114 : Int32).toInt8.toInt32)), (.int (0 : Int32)), (.int (0 : Int32)), (.int (0 : Int32)), (.int (0 : Int32)), (.int (0 : Int32)), (.int (0 : Int32))] (.int (0 : Int32)) := Arv.set r2 q2 s2 z2 y2 G2 (fits_nar_byte _) W2 0 rfl (Nat.le_of_ble_eq_true rfl)
  have f5 : Arv Z h2 o1_ ko1_ .byte (7 : Int32) [(.int (114 : Int32)), (.int (0 : Int32)), (.int (0 : Int32)), (.int (0 : Int32)), (.int (0 : Int32)), (.int (0 : Int32)), (.int (0 : Int32))] (.int (0 : Int32)) := by have q := f4; exact q
  have f6 : Arv Z h2 o0_ ko0_ .char (7 : Int32) [(.int (114 : Int32)), (.int (101 : Int32)), (.int (102 : Int32)), (.int (117 : Int32)), (.int (115 : Int32)), (.int (101 : Int32)), (.int (100 : Int32))] (.int (0 : Int32)) := P0.other W2 P5
  obtain ⟨c7, r7, q7, s7, z7, y7, G7⟩ := id f6
  have hin7 : ¬ ((1 : Int32) < 0 ∨ c7.slots.size ≤ ((1 : Int32)).toNatClampNeg) := inb_of s7 ⟨by decide, by decide⟩
  have hat7 : c7.slots[((1 : Int32)).toNatClampNeg]? = some (.int (101 : Int32)) := Has.at y7 hin7 rfl
  obtain ⟨c8, r8, q8, s8, z8, y8, G8⟩ := id f5
  have hin8 : ¬ ((1 : Int32) < 0 ∨ c8.slots.size ≤ ((1 : Int32)).toNatClampNeg) := inb_of s8 ⟨by decide, by decide⟩
  obtain ⟨T8, h8, X8, e8, W8, st8⟩ := stB X2 hx hZ e2 r8 (j := (1 : Int32)) hin8 (g := (mkF m 31 #[.val (.ref o0_), .val (.int (1 : Int32)), .val (.ref o1_), .val (.int (1 : Int32)), .val (.int (7 : Int32)), .val (.int (1 : Int32)), .val (.int (101 : Int32))] [(.int (101 : Int32)), (.int (1 : Int32)), (.ref o1_)])) rfl rfl (hb hby d4_31)
  have N9 := Fr.snoc X8 N3 P4
  have f10 : Arv Z h8 o1_ ko1_ .byte (7 : Int32) [(.int (114 : Int32)), (.int ((101 : Int32).toInt8.toInt32)), (.int (0 : Int32)), (.int (0 : Int32)), (.int (0 : Int32)), (.int (0 : Int32)), (.int (0 : Int32))] (.int (0 : Int32)) := Arv.set r8 q8 s8 z8 y8 G8 (fits_nar_byte _) W8 1 rfl (Nat.le_of_ble_eq_true rfl)
  have f11 : Arv Z h8 o1_ ko1_ .byte (7 : Int32) [(.int (114 : Int32)), (.int (101 : Int32)), (.int (0 : Int32)), (.int (0 : Int32)), (.int (0 : Int32)), (.int (0 : Int32)), (.int (0 : Int32))] (.int (0 : Int32)) := by have q := f10; exact q
  have f12 : Arv Z h8 o0_ ko0_ .char (7 : Int32) [(.int (114 : Int32)), (.int (101 : Int32)), (.int (102 : Int32)), (.int (117 : Int32)), (.int (115 : Int32)), (.int (101 : Int32)), (.int (100 : Int32))] (.int (0 : Int32)) := f6.other W8 P5
  obtain ⟨c13, r13, q13, s13, z13, y13, G13⟩ := id f12
  have hin13 : ¬ ((2 : Int32) < 0 ∨ c13.slots.size ≤ ((2 : Int32)).toNatClampNeg) := inb_of s13 ⟨by decide, by decide⟩
  have hat13 : c13.slots[((2 : Int32)).toNatClampNeg]? = some (.int (102 : Int32)) := Has.at y13 hin13 rfl
  obtain ⟨c14, r14, q14, s14, z14, y14, G14⟩ := id f11
  have hin14 : ¬ ((2 : Int32) < 0 ∨ c14.slots.size ≤ ((2 : Int32)).toNatClampNeg) := inb_of s14 ⟨by decide, by decide⟩
  obtain ⟨T14, h14, X14, e14, W14, st14⟩ := stB X8 hx hZ e8 r14 (j := (2 : Int32)) hin14 (g := (mkF m 31 #[.val (.ref o0_), .val (.int (2 : Int32)), .val (.ref o1_), .val (.int (2 : Int32)), .val (.int (7 : Int32)), .val (.int (2 : Int32)), .val (.int (102 : Int32))] [(.int (102 : Int32)), (.int (2 : Int32)), (.ref o1_)])) rfl rfl (hb hby d4_31)
  have N15 := Fr.snoc X14 N9 P4
  have f16 : Arv Z h14 o1_ ko1_ .byte (7 : Int32) [(.int (114 : Int32)), (.int (101 : Int32)), (.int ((102 : Int32).toInt8.toInt32)), (.int (0 : Int32)), (.int (0 : Int32)), (.int (0 : Int32)), (.int (0 : Int32))] (.int (0 : Int32)) := Arv.set r14 q14 s14 z14 y14 G14 (fits_nar_byte _) W14 2 rfl (Nat.le_of_ble_eq_true rfl)
  have f17 : Arv Z h14 o1_ ko1_ .byte (7 : Int32) [(.int (114 : Int32)), (.int (101 : Int32)), (.int (102 : Int32)), (.int (0 : Int32)), (.int (0 : Int32)), (.int (0 : Int32)), (.int (0 : Int32))] (.int (0 : Int32)) := by have q := f16; exact q
  have f18 : Arv Z h14 o0_ ko0_ .char (7 : Int32) [(.int (114 : Int32)), (.int (101 : Int32)), (.int (102 : Int32)), (.int (117 : Int32)), (.int (115 : Int32)), (.int (101 : Int32)), (.int (100 : Int32))] (.int (0 : Int32)) := f12.other W14 P5
  obtain ⟨c19, r19, q19, s19, z19, y19, G19⟩ := id f18
  have hin19 : ¬ ((3 : Int32) < 0 ∨ c19.slots.size ≤ ((3 : Int32)).toNatClampNeg) := inb_of s19 ⟨by decide, by decide⟩
  have hat19 : c19.slots[((3 : Int32)).toNatClampNeg]? = some (.int (117 : Int32)) := Has.at y19 hin19 rfl
  obtain ⟨c20, r20, q20, s20, z20, y20, G20⟩ := id f17
  have hin20 : ¬ ((3 : Int32) < 0 ∨ c20.slots.size ≤ ((3 : Int32)).toNatClampNeg) := inb_of s20 ⟨by decide, by decide⟩
  obtain ⟨T20, h20, X20, e20, W20, st20⟩ := stB X14 hx hZ e14 r20 (j := (3 : Int32)) hin20 (g := (mkF m 31 #[.val (.ref o0_), .val (.int (3 : Int32)), .val (.ref o1_), .val (.int (3 : Int32)), .val (.int (7 : Int32)), .val (.int (3 : Int32)), .val (.int (117 : Int32))] [(.int (117 : Int32)), (.int (3 : Int32)), (.ref o1_)])) rfl rfl (hb hby d4_31)
  have N21 := Fr.snoc X20 N15 P4
  have f22 : Arv Z h20 o1_ ko1_ .byte (7 : Int32) [(.int (114 : Int32)), (.int (101 : Int32)), (.int (102 : Int32)), (.int ((117 : Int32).toInt8.toInt32)), (.int (0 : Int32)), (.int (0 : Int32)), (.int (0 : Int32))] (.int (0 : Int32)) := Arv.set r20 q20 s20 z20 y20 G20 (fits_nar_byte _) W20 3 rfl (Nat.le_of_ble_eq_true rfl)
  have f23 : Arv Z h20 o1_ ko1_ .byte (7 : Int32) [(.int (114 : Int32)), (.int (101 : Int32)), (.int (102 : Int32)), (.int (117 : Int32)), (.int (0 : Int32)), (.int (0 : Int32)), (.int (0 : Int32))] (.int (0 : Int32)) := by have q := f22; exact q
  have f24 : Arv Z h20 o0_ ko0_ .char (7 : Int32) [(.int (114 : Int32)), (.int (101 : Int32)), (.int (102 : Int32)), (.int (117 : Int32)), (.int (115 : Int32)), (.int (101 : Int32)), (.int (100 : Int32))] (.int (0 : Int32)) := f18.other W20 P5
  obtain ⟨c25, r25, q25, s25, z25, y25, G25⟩ := id f24
  have hin25 : ¬ ((4 : Int32) < 0 ∨ c25.slots.size ≤ ((4 : Int32)).toNatClampNeg) := inb_of s25 ⟨by decide, by decide⟩
  have hat25 : c25.slots[((4 : Int32)).toNatClampNeg]? = some (.int (115 : Int32)) := Has.at y25 hin25 rfl
  obtain ⟨c26, r26, q26, s26, z26, y26, G26⟩ := id f23
  have hin26 : ¬ ((4 : Int32) < 0 ∨ c26.slots.size ≤ ((4 : Int32)).toNatClampNeg) := inb_of s26 ⟨by decide, by decide⟩
  obtain ⟨T26, h26, X26, e26, W26, st26⟩ := stB X20 hx hZ e20 r26 (j := (4 : Int32)) hin26 (g := (mkF m 31 #[.val (.ref o0_), .val (.int (4 : Int32)), .val (.ref o1_), .val (.int (4 : Int32)), .val (.int (7 : Int32)), .val (.int (4 : Int32)), .val (.int (115 : Int32))] [(.int (115 : Int32)), (.int (4 : Int32)), (.ref o1_)])) rfl rfl (hb hby d4_31)
  have N27 := Fr.snoc X26 N21 P4
  have f28 : Arv Z h26 o1_ ko1_ .byte (7 : Int32) [(.int (114 : Int32)), (.int (101 : Int32)), (.int (102 : Int32)), (.int (117 : Int32)), (.int ((115 : Int32).toInt8.toInt32)), (.int (0 : Int32)), (.int (0 : Int32))] (.int (0 : Int32)) := Arv.set r26 q26 s26 z26 y26 G26 (fits_nar_byte _) W26 4 rfl (Nat.le_of_ble_eq_true rfl)
  have f29 : Arv Z h26 o1_ ko1_ .byte (7 : Int32) [(.int (114 : Int32)), (.int (101 : Int32)), (.int (102 : Int32)), (.int (117 : Int32)), (.int (115 : Int32)), (.int (0 : Int32)), (.int (0 : Int32))] (.int (0 : Int32)) := by have q := f28; exact q
  have f30 : Arv Z h26 o0_ ko0_ .char (7 : Int32) [(.int (114 : Int32)), (.int (101 : Int32)), (.int (102 : Int32)), (.int (117 : Int32)), (.int (115 : Int32)), (.int (101 : Int32)), (.int (100 : Int32))] (.int (0 : Int32)) := f24.other W26 P5
  obtain ⟨c31, r31, q31, s31, z31, y31, G31⟩ := id f30
  have hin31 : ¬ ((5 : Int32) < 0 ∨ c31.slots.size ≤ ((5 : Int32)).toNatClampNeg) := inb_of s31 ⟨by decide, by decide⟩
  have hat31 : c31.slots[((5 : Int32)).toNatClampNeg]? = some (.int (101 : Int32)) := Has.at y31 hin31 rfl
  obtain ⟨c32, r32, q32, s32, z32, y32, G32⟩ := id f29
  have hin32 : ¬ ((5 : Int32) < 0 ∨ c32.slots.size ≤ ((5 : Int32)).toNatClampNeg) := inb_of s32 ⟨by decide, by decide⟩
  obtain ⟨T32, h32, X32, e32, W32, st32⟩ := stB X26 hx hZ e26 r32 (j := (5 : Int32)) hin32 (g := (mkF m 31 #[.val (.ref o0_), .val (.int (5 : Int32)), .val (.ref o1_), .val (.int (5 : Int32)), .val (.int (7 : Int32)), .val (.int (5 : Int32)), .val (.int (101 : Int32))] [(.int (101 : Int32)), (.int (5 : Int32)), (.ref o1_)])) rfl rfl (hb hby d4_31)
  have N33 := Fr.snoc X32 N27 P4
  have f34 : Arv Z h32 o1_ ko1_ .byte (7 : Int32) [(.int (114 : Int32)), (.int (101 : Int32)), (.int (102 : Int32)), (.int (117 : Int32)), (.int (115 : Int32)), (.int ((101 : Int32).toInt8.toInt32)), (.int (0 : Int32))] (.int (0 : Int32)) := Arv.set r32 q32 s32 z32 y32 G32 (fits_nar_byte _) W32 5 rfl (Nat.le_of_ble_eq_true rfl)
  have f35 : Arv Z h32 o1_ ko1_ .byte (7 : Int32) [(.int (114 : Int32)), (.int (101 : Int32)), (.int (102 : Int32)), (.int (117 : Int32)), (.int (115 : Int32)), (.int (101 : Int32)), (.int (0 : Int32))] (.int (0 : Int32)) := by have q := f34; exact q
  have f36 : Arv Z h32 o0_ ko0_ .char (7 : Int32) [(.int (114 : Int32)), (.int (101 : Int32)), (.int (102 : Int32)), (.int (117 : Int32)), (.int (115 : Int32)), (.int (101 : Int32)), (.int (100 : Int32))] (.int (0 : Int32)) := f30.other W32 P5
  obtain ⟨c37, r37, q37, s37, z37, y37, G37⟩ := id f36
  have hin37 : ¬ ((6 : Int32) < 0 ∨ c37.slots.size ≤ ((6 : Int32)).toNatClampNeg) := inb_of s37 ⟨by decide, by decide⟩
  have hat37 : c37.slots[((6 : Int32)).toNatClampNeg]? = some (.int (100 : Int32)) := Has.at y37 hin37 rfl
  obtain ⟨c38, r38, q38, s38, z38, y38, G38⟩ := id f35
  have hin38 : ¬ ((6 : Int32) < 0 ∨ c38.slots.size ≤ ((6 : Int32)).toNatClampNeg) := inb_of s38 ⟨by decide, by decide⟩
  obtain ⟨T38, h38, X38, e38, W38, st38⟩ := stB X32 hx hZ e32 r38 (j := (6 : Int32)) hin38 (g := (mkF m 31 #[.val (.ref o0_), .val (.int (6 : Int32)), .val (.ref o1_), .val (.int (6 : Int32)), .val (.int (7 : Int32)), .val (.int (6 : Int32)), .val (.int (100 : Int32))] [(.int (100 : Int32)), (.int (6 : Int32)), (.ref o1_)])) rfl rfl (hb hby d4_31)
  have N39 := Fr.snoc X38 N33 P4
  have f40 : Arv Z h38 o1_ ko1_ .byte (7 : Int32) [(.int (114 : Int32)), (.int (101 : Int32)), (.int (102 : Int32)), (.int (117 : Int32)), (.int (115 : Int32)), (.int (101 : Int32)), (.int ((100 : Int32).toInt8.toInt32))] (.int (0 : Int32)) := Arv.set r38 q38 s38 z38 y38 G38 (fits_nar_byte _) W38 6 rfl (Nat.le_of_ble_eq_true rfl)
  have f41 : Arv Z h38 o1_ ko1_ .byte (7 : Int32) [(.int (114 : Int32)), (.int (101 : Int32)), (.int (102 : Int32)), (.int (117 : Int32)), (.int (115 : Int32)), (.int (101 : Int32)), (.int (100 : Int32))] (.int (0 : Int32)) := by have q := f40; exact q
  have pre42 : ∀ t, Steps p.tables e below (T38.setTop (mkF m 46 #[.val (.ref o0_), .val (.int (7 : Int32)), .val (.ref o1_), .val (.int (7 : Int32)), .val (.int (7 : Int32)), .val (.int (7 : Int32)), .val (.int (100 : Int32))] [(.int (7 : Int32))])) t → Steps p.tables e below (s₁.setTop (entryFrame m #[(.ref o0_), (.int (0 : Int32)), (.ref o1_), (.int (0 : Int32)), (.int (7 : Int32))] 7)) t := by
    intro t kt
    refine pre0 t ?_
    show Steps p.tables e below (s₁.setTop (mkF m 0 #[.val (.ref o0_), .val (.int (0 : Int32)), .val (.ref o1_), .val (.int (0 : Int32)), .val (.int (7 : Int32)), .unset, .unset] [])) _
    refine XS.iconst X0.here hx rfl (hb hby d4_0) ?_
    show Steps p.tables e below (s₁.setTop (mkF m 1 #[.val (.ref o0_), .val (.int (0 : Int32)), .val (.ref o1_), .val (.int (0 : Int32)), .val (.int (7 : Int32)), .unset, .unset] [(.int (0 : Int32))])) _
    refine XS.istore X0.here hx rfl (hb hby d4_1) rfl (l' := #[.val (.ref o0_), .val (.int (0 : Int32)), .val (.ref o1_), .val (.int (0 : Int32)), .val (.int (7 : Int32)), .val (.int (0 : Int32)), .unset]) rfl ?_
    show Steps p.tables e below (s₁.setTop (mkF m 3 #[.val (.ref o0_), .val (.int (0 : Int32)), .val (.ref o1_), .val (.int (0 : Int32)), .val (.int (7 : Int32)), .val (.int (0 : Int32)), .unset] [])) _
    refine XS.iload X0.here hx rfl (hb hby d4_3) rfl ?_
    show Steps p.tables e below (s₁.setTop (mkF m 5 #[.val (.ref o0_), .val (.int (0 : Int32)), .val (.ref o1_), .val (.int (0 : Int32)), .val (.int (7 : Int32)), .val (.int (0 : Int32)), .unset] [(.int (0 : Int32))])) _
    refine XS.iload X0.here hx rfl (hb hby d4_5) rfl ?_
    show Steps p.tables e below (s₁.setTop (mkF m 7 #[.val (.ref o0_), .val (.int (0 : Int32)), .val (.ref o1_), .val (.int (0 : Int32)), .val (.int (7 : Int32)), .val (.int (0 : Int32)), .unset] [(.int (7 : Int32)), (.int (0 : Int32))])) _
    refine XS.icmpNo X0.here hx rfl (hb hby d4_7) rfl (tlt (by decide : (0 : Int32) < (7 : Int32))).2.1 ?_
    show Steps p.tables e below (s₁.setTop (mkF m 10 #[.val (.ref o0_), .val (.int (0 : Int32)), .val (.ref o1_), .val (.int (0 : Int32)), .val (.int (7 : Int32)), .val (.int (0 : Int32)), .unset] [])) _
    refine XS.aloadN X0.here hx rfl (hb hby d4_10) rfl rfl ?_
    show Steps p.tables e below (s₁.setTop (mkF m 11 #[.val (.ref o0_), .val (.int (0 : Int32)), .val (.ref o1_), .val (.int (0 : Int32)), .val (.int (7 : Int32)), .val (.int (0 : Int32)), .unset] [(.ref o0_)])) _
    refine XS.iloadN X0.here hx rfl (hb hby d4_11) rfl ?_
    show Steps p.tables e below (s₁.setTop (mkF m 12 #[.val (.ref o0_), .val (.int (0 : Int32)), .val (.ref o1_), .val (.int (0 : Int32)), .val (.int (7 : Int32)), .val (.int (0 : Int32)), .unset] [(.int (0 : Int32)), (.ref o0_)])) _
    refine X0.caload hx (j := (0 : Int32)) (v := (.int (114 : Int32))) (by rw [e0]; exact r1.1) (State.isArrayOf_alike hZ.alike r1.2.1) r1.2.2 hin1 hat1 (g := (mkF m 12 #[.val (.ref o0_), .val (.int (0 : Int32)), .val (.ref o1_), .val (.int (0 : Int32)), .val (.int (7 : Int32)), .val (.int (0 : Int32)), .unset] [(.int (0 : Int32)), (.ref o0_)])) rfl rfl (hb hby d4_12) _ ?_
    show Steps p.tables e below (s₁.setTop (mkF m 13 #[.val (.ref o0_), .val (.int (0 : Int32)), .val (.ref o1_), .val (.int (0 : Int32)), .val (.int (7 : Int32)), .val (.int (0 : Int32)), .unset] [(.int (114 : Int32))])) _
    refine XS.istore X0.here hx rfl (hb hby d4_13) rfl (l' := #[.val (.ref o0_), .val (.int (0 : Int32)), .val (.ref o1_), .val (.int (0 : Int32)), .val (.int (7 : Int32)), .val (.int (0 : Int32)), .val (.int (114 : Int32))]) rfl ?_
    show Steps p.tables e below (s₁.setTop (mkF m 15 #[.val (.ref o0_), .val (.int (0 : Int32)), .val (.ref o1_), .val (.int (0 : Int32)), .val (.int (7 : Int32)), .val (.int (0 : Int32)), .val (.int (114 : Int32))] [])) _
    refine XS.iload X0.here hx rfl (hb hby d4_15) rfl ?_
    show Steps p.tables e below (s₁.setTop (mkF m 17 #[.val (.ref o0_), .val (.int (0 : Int32)), .val (.ref o1_), .val (.int (0 : Int32)), .val (.int (7 : Int32)), .val (.int (0 : Int32)), .val (.int (114 : Int32))] [(.int (114 : Int32))])) _
    refine XS.sipush X0.here hx rfl (hb hby d4_17) ?_
    show Steps p.tables e below (s₁.setTop (mkF m 20 #[.val (.ref o0_), .val (.int (0 : Int32)), .val (.ref o1_), .val (.int (0 : Int32)), .val (.int (7 : Int32)), .val (.int (0 : Int32)), .val (.int (114 : Int32))] [(.int (255 : Int32)), (.int (114 : Int32))])) _
    refine XS.icmpYes X0.here hx rfl (pc0 := 20) (pc' := 26) rfl (hb hby d4_20) rfl (flt (by decide : ¬ ((255 : Int32) < (114 : Int32)))).2.2.2 (by decide) (by decide) ?_
    show Steps p.tables e below (s₁.setTop (mkF m 26 #[.val (.ref o0_), .val (.int (0 : Int32)), .val (.ref o1_), .val (.int (0 : Int32)), .val (.int (7 : Int32)), .val (.int (0 : Int32)), .val (.int (114 : Int32))] [])) _
    refine XS.aloadN X0.here hx rfl (hb hby d4_26) rfl rfl ?_
    show Steps p.tables e below (s₁.setTop (mkF m 27 #[.val (.ref o0_), .val (.int (0 : Int32)), .val (.ref o1_), .val (.int (0 : Int32)), .val (.int (7 : Int32)), .val (.int (0 : Int32)), .val (.int (114 : Int32))] [(.ref o1_)])) _
    refine XS.iloadN X0.here hx rfl (hb hby d4_27) rfl ?_
    show Steps p.tables e below (s₁.setTop (mkF m 28 #[.val (.ref o0_), .val (.int (0 : Int32)), .val (.ref o1_), .val (.int (0 : Int32)), .val (.int (7 : Int32)), .val (.int (0 : Int32)), .val (.int (114 : Int32))] [(.int (0 : Int32)), (.ref o1_)])) _
    refine XS.iload X0.here hx rfl (hb hby d4_28) rfl ?_
    show Steps p.tables e below (s₁.setTop (mkF m 30 #[.val (.ref o0_), .val (.int (0 : Int32)), .val (.ref o1_), .val (.int (0 : Int32)), .val (.int (7 : Int32)), .val (.int (0 : Int32)), .val (.int (114 : Int32))] [(.int (114 : Int32)), (.int (0 : Int32)), (.ref o1_)])) _
    refine XS.i2b X0.here hx rfl (hb hby d4_30) rfl ?_
    show Steps p.tables e below (s₁.setTop (mkF m 31 #[.val (.ref o0_), .val (.int (0 : Int32)), .val (.ref o1_), .val (.int (0 : Int32)), .val (.int (7 : Int32)), .val (.int (0 : Int32)), .val (.int (114 : Int32))] [(.int (114 : Int32)), (.int (0 : Int32)), (.ref o1_)])) _
    refine st2 _ ?_
    show Steps p.tables e below (T2.setTop (mkF m 32 #[.val (.ref o0_), .val (.int (0 : Int32)), .val (.ref o1_), .val (.int (0 : Int32)), .val (.int (7 : Int32)), .val (.int (0 : Int32)), .val (.int (114 : Int32))] [])) _
    refine XS.iinc X2.here hx rfl (hb hby d4_32) rfl (l' := #[.val (.ref o0_), .val (.int (1 : Int32)), .val (.ref o1_), .val (.int (0 : Int32)), .val (.int (7 : Int32)), .val (.int (0 : Int32)), .val (.int (114 : Int32))]) rfl ?_
    show Steps p.tables e below (T2.setTop (mkF m 35 #[.val (.ref o0_), .val (.int (1 : Int32)), .val (.ref o1_), .val (.int (0 : Int32)), .val (.int (7 : Int32)), .val (.int (0 : Int32)), .val (.int (114 : Int32))] [])) _
    refine XS.iinc X2.here hx rfl (hb hby d4_35) rfl (l' := #[.val (.ref o0_), .val (.int (1 : Int32)), .val (.ref o1_), .val (.int (1 : Int32)), .val (.int (7 : Int32)), .val (.int (0 : Int32)), .val (.int (114 : Int32))]) rfl ?_
    show Steps p.tables e below (T2.setTop (mkF m 38 #[.val (.ref o0_), .val (.int (1 : Int32)), .val (.ref o1_), .val (.int (1 : Int32)), .val (.int (7 : Int32)), .val (.int (0 : Int32)), .val (.int (114 : Int32))] [])) _
    refine XS.iinc X2.here hx rfl (hb hby d4_38) rfl (l' := #[.val (.ref o0_), .val (.int (1 : Int32)), .val (.ref o1_), .val (.int (1 : Int32)), .val (.int (7 : Int32)), .val (.int (1 : Int32)), .val (.int (114 : Int32))]) rfl ?_
    show Steps p.tables e below (T2.setTop (mkF m 41 #[.val (.ref o0_), .val (.int (1 : Int32)), .val (.ref o1_), .val (.int (1 : Int32)), .val (.int (7 : Int32)), .val (.int (1 : Int32)), .val (.int (114 : Int32))] [])) _
    refine XS.goto X2.here hx rfl (pc0 := 41) (pc' := 3) rfl (hb hby d4_41) (by decide) (by decide) ?_
    show Steps p.tables e below (T2.setTop (mkF m 3 #[.val (.ref o0_), .val (.int (1 : Int32)), .val (.ref o1_), .val (.int (1 : Int32)), .val (.int (7 : Int32)), .val (.int (1 : Int32)), .val (.int (114 : Int32))] [])) _
    refine XS.iload X2.here hx rfl (hb hby d4_3) rfl ?_
    show Steps p.tables e below (T2.setTop (mkF m 5 #[.val (.ref o0_), .val (.int (1 : Int32)), .val (.ref o1_), .val (.int (1 : Int32)), .val (.int (7 : Int32)), .val (.int (1 : Int32)), .val (.int (114 : Int32))] [(.int (1 : Int32))])) _
    refine XS.iload X2.here hx rfl (hb hby d4_5) rfl ?_
    show Steps p.tables e below (T2.setTop (mkF m 7 #[.val (.ref o0_), .val (.int (1 : Int32)), .val (.ref o1_), .val (.int (1 : Int32)), .val (.int (7 : Int32)), .val (.int (1 : Int32)), .val (.int (114 : Int32))] [(.int (7 : Int32)), (.int (1 : Int32))])) _
    refine XS.icmpNo X2.here hx rfl (hb hby d4_7) rfl (tlt (by decide : (1 : Int32) < (7 : Int32))).2.1 ?_
    show Steps p.tables e below (T2.setTop (mkF m 10 #[.val (.ref o0_), .val (.int (1 : Int32)), .val (.ref o1_), .val (.int (1 : Int32)), .val (.int (7 : Int32)), .val (.int (1 : Int32)), .val (.int (114 : Int32))] [])) _
    refine XS.aloadN X2.here hx rfl (hb hby d4_10) rfl rfl ?_
    show Steps p.tables e below (T2.setTop (mkF m 11 #[.val (.ref o0_), .val (.int (1 : Int32)), .val (.ref o1_), .val (.int (1 : Int32)), .val (.int (7 : Int32)), .val (.int (1 : Int32)), .val (.int (114 : Int32))] [(.ref o0_)])) _
    refine XS.iloadN X2.here hx rfl (hb hby d4_11) rfl ?_
    show Steps p.tables e below (T2.setTop (mkF m 12 #[.val (.ref o0_), .val (.int (1 : Int32)), .val (.ref o1_), .val (.int (1 : Int32)), .val (.int (7 : Int32)), .val (.int (1 : Int32)), .val (.int (114 : Int32))] [(.int (1 : Int32)), (.ref o0_)])) _
    refine X2.caload hx (j := (1 : Int32)) (v := (.int (101 : Int32))) (by rw [e2]; exact r7.1) (State.isArrayOf_alike hZ.alike r7.2.1) r7.2.2 hin7 hat7 (g := (mkF m 12 #[.val (.ref o0_), .val (.int (1 : Int32)), .val (.ref o1_), .val (.int (1 : Int32)), .val (.int (7 : Int32)), .val (.int (1 : Int32)), .val (.int (114 : Int32))] [(.int (1 : Int32)), (.ref o0_)])) rfl rfl (hb hby d4_12) _ ?_
    show Steps p.tables e below (T2.setTop (mkF m 13 #[.val (.ref o0_), .val (.int (1 : Int32)), .val (.ref o1_), .val (.int (1 : Int32)), .val (.int (7 : Int32)), .val (.int (1 : Int32)), .val (.int (114 : Int32))] [(.int (101 : Int32))])) _
    refine XS.istore X2.here hx rfl (hb hby d4_13) rfl (l' := #[.val (.ref o0_), .val (.int (1 : Int32)), .val (.ref o1_), .val (.int (1 : Int32)), .val (.int (7 : Int32)), .val (.int (1 : Int32)), .val (.int (101 : Int32))]) rfl ?_
    show Steps p.tables e below (T2.setTop (mkF m 15 #[.val (.ref o0_), .val (.int (1 : Int32)), .val (.ref o1_), .val (.int (1 : Int32)), .val (.int (7 : Int32)), .val (.int (1 : Int32)), .val (.int (101 : Int32))] [])) _
    refine XS.iload X2.here hx rfl (hb hby d4_15) rfl ?_
    show Steps p.tables e below (T2.setTop (mkF m 17 #[.val (.ref o0_), .val (.int (1 : Int32)), .val (.ref o1_), .val (.int (1 : Int32)), .val (.int (7 : Int32)), .val (.int (1 : Int32)), .val (.int (101 : Int32))] [(.int (101 : Int32))])) _
    refine XS.sipush X2.here hx rfl (hb hby d4_17) ?_
    show Steps p.tables e below (T2.setTop (mkF m 20 #[.val (.ref o0_), .val (.int (1 : Int32)), .val (.ref o1_), .val (.int (1 : Int32)), .val (.int (7 : Int32)), .val (.int (1 : Int32)), .val (.int (101 : Int32))] [(.int (255 : Int32)), (.int (101 : Int32))])) _
    refine XS.icmpYes X2.here hx rfl (pc0 := 20) (pc' := 26) rfl (hb hby d4_20) rfl (flt (by decide : ¬ ((255 : Int32) < (101 : Int32)))).2.2.2 (by decide) (by decide) ?_
    show Steps p.tables e below (T2.setTop (mkF m 26 #[.val (.ref o0_), .val (.int (1 : Int32)), .val (.ref o1_), .val (.int (1 : Int32)), .val (.int (7 : Int32)), .val (.int (1 : Int32)), .val (.int (101 : Int32))] [])) _
    refine XS.aloadN X2.here hx rfl (hb hby d4_26) rfl rfl ?_
    show Steps p.tables e below (T2.setTop (mkF m 27 #[.val (.ref o0_), .val (.int (1 : Int32)), .val (.ref o1_), .val (.int (1 : Int32)), .val (.int (7 : Int32)), .val (.int (1 : Int32)), .val (.int (101 : Int32))] [(.ref o1_)])) _
    refine XS.iloadN X2.here hx rfl (hb hby d4_27) rfl ?_
    show Steps p.tables e below (T2.setTop (mkF m 28 #[.val (.ref o0_), .val (.int (1 : Int32)), .val (.ref o1_), .val (.int (1 : Int32)), .val (.int (7 : Int32)), .val (.int (1 : Int32)), .val (.int (101 : Int32))] [(.int (1 : Int32)), (.ref o1_)])) _
    refine XS.iload X2.here hx rfl (hb hby d4_28) rfl ?_
    show Steps p.tables e below (T2.setTop (mkF m 30 #[.val (.ref o0_), .val (.int (1 : Int32)), .val (.ref o1_), .val (.int (1 : Int32)), .val (.int (7 : Int32)), .val (.int (1 : Int32)), .val (.int (101 : Int32))] [(.int (101 : Int32)), (.int (1 : Int32)), (.ref o1_)])) _
    refine XS.i2b X2.here hx rfl (hb hby d4_30) rfl ?_
    show Steps p.tables e below (T2.setTop (mkF m 31 #[.val (.ref o0_), .val (.int (1 : Int32)), .val (.ref o1_), .val (.int (1 : Int32)), .val (.int (7 : Int32)), .val (.int (1 : Int32)), .val (.int (101 : Int32))] [(.int (101 : Int32)), (.int (1 : Int32)), (.ref o1_)])) _
    refine st8 _ ?_
    show Steps p.tables e below (T8.setTop (mkF m 32 #[.val (.ref o0_), .val (.int (1 : Int32)), .val (.ref o1_), .val (.int (1 : Int32)), .val (.int (7 : Int32)), .val (.int (1 : Int32)), .val (.int (101 : Int32))] [])) _
    refine XS.iinc X8.here hx rfl (hb hby d4_32) rfl (l' := #[.val (.ref o0_), .val (.int (2 : Int32)), .val (.ref o1_), .val (.int (1 : Int32)), .val (.int (7 : Int32)), .val (.int (1 : Int32)), .val (.int (101 : Int32))]) rfl ?_
    show Steps p.tables e below (T8.setTop (mkF m 35 #[.val (.ref o0_), .val (.int (2 : Int32)), .val (.ref o1_), .val (.int (1 : Int32)), .val (.int (7 : Int32)), .val (.int (1 : Int32)), .val (.int (101 : Int32))] [])) _
    refine XS.iinc X8.here hx rfl (hb hby d4_35) rfl (l' := #[.val (.ref o0_), .val (.int (2 : Int32)), .val (.ref o1_), .val (.int (2 : Int32)), .val (.int (7 : Int32)), .val (.int (1 : Int32)), .val (.int (101 : Int32))]) rfl ?_
    show Steps p.tables e below (T8.setTop (mkF m 38 #[.val (.ref o0_), .val (.int (2 : Int32)), .val (.ref o1_), .val (.int (2 : Int32)), .val (.int (7 : Int32)), .val (.int (1 : Int32)), .val (.int (101 : Int32))] [])) _
    refine XS.iinc X8.here hx rfl (hb hby d4_38) rfl (l' := #[.val (.ref o0_), .val (.int (2 : Int32)), .val (.ref o1_), .val (.int (2 : Int32)), .val (.int (7 : Int32)), .val (.int (2 : Int32)), .val (.int (101 : Int32))]) rfl ?_
    show Steps p.tables e below (T8.setTop (mkF m 41 #[.val (.ref o0_), .val (.int (2 : Int32)), .val (.ref o1_), .val (.int (2 : Int32)), .val (.int (7 : Int32)), .val (.int (2 : Int32)), .val (.int (101 : Int32))] [])) _
    refine XS.goto X8.here hx rfl (pc0 := 41) (pc' := 3) rfl (hb hby d4_41) (by decide) (by decide) ?_
    show Steps p.tables e below (T8.setTop (mkF m 3 #[.val (.ref o0_), .val (.int (2 : Int32)), .val (.ref o1_), .val (.int (2 : Int32)), .val (.int (7 : Int32)), .val (.int (2 : Int32)), .val (.int (101 : Int32))] [])) _
    refine XS.iload X8.here hx rfl (hb hby d4_3) rfl ?_
    show Steps p.tables e below (T8.setTop (mkF m 5 #[.val (.ref o0_), .val (.int (2 : Int32)), .val (.ref o1_), .val (.int (2 : Int32)), .val (.int (7 : Int32)), .val (.int (2 : Int32)), .val (.int (101 : Int32))] [(.int (2 : Int32))])) _
    refine XS.iload X8.here hx rfl (hb hby d4_5) rfl ?_
    show Steps p.tables e below (T8.setTop (mkF m 7 #[.val (.ref o0_), .val (.int (2 : Int32)), .val (.ref o1_), .val (.int (2 : Int32)), .val (.int (7 : Int32)), .val (.int (2 : Int32)), .val (.int (101 : Int32))] [(.int (7 : Int32)), (.int (2 : Int32))])) _
    refine XS.icmpNo X8.here hx rfl (hb hby d4_7) rfl (tlt (by decide : (2 : Int32) < (7 : Int32))).2.1 ?_
    show Steps p.tables e below (T8.setTop (mkF m 10 #[.val (.ref o0_), .val (.int (2 : Int32)), .val (.ref o1_), .val (.int (2 : Int32)), .val (.int (7 : Int32)), .val (.int (2 : Int32)), .val (.int (101 : Int32))] [])) _
    refine XS.aloadN X8.here hx rfl (hb hby d4_10) rfl rfl ?_
    show Steps p.tables e below (T8.setTop (mkF m 11 #[.val (.ref o0_), .val (.int (2 : Int32)), .val (.ref o1_), .val (.int (2 : Int32)), .val (.int (7 : Int32)), .val (.int (2 : Int32)), .val (.int (101 : Int32))] [(.ref o0_)])) _
    refine XS.iloadN X8.here hx rfl (hb hby d4_11) rfl ?_
    show Steps p.tables e below (T8.setTop (mkF m 12 #[.val (.ref o0_), .val (.int (2 : Int32)), .val (.ref o1_), .val (.int (2 : Int32)), .val (.int (7 : Int32)), .val (.int (2 : Int32)), .val (.int (101 : Int32))] [(.int (2 : Int32)), (.ref o0_)])) _
    refine X8.caload hx (j := (2 : Int32)) (v := (.int (102 : Int32))) (by rw [e8]; exact r13.1) (State.isArrayOf_alike hZ.alike r13.2.1) r13.2.2 hin13 hat13 (g := (mkF m 12 #[.val (.ref o0_), .val (.int (2 : Int32)), .val (.ref o1_), .val (.int (2 : Int32)), .val (.int (7 : Int32)), .val (.int (2 : Int32)), .val (.int (101 : Int32))] [(.int (2 : Int32)), (.ref o0_)])) rfl rfl (hb hby d4_12) _ ?_
    show Steps p.tables e below (T8.setTop (mkF m 13 #[.val (.ref o0_), .val (.int (2 : Int32)), .val (.ref o1_), .val (.int (2 : Int32)), .val (.int (7 : Int32)), .val (.int (2 : Int32)), .val (.int (101 : Int32))] [(.int (102 : Int32))])) _
    refine XS.istore X8.here hx rfl (hb hby d4_13) rfl (l' := #[.val (.ref o0_), .val (.int (2 : Int32)), .val (.ref o1_), .val (.int (2 : Int32)), .val (.int (7 : Int32)), .val (.int (2 : Int32)), .val (.int (102 : Int32))]) rfl ?_
    show Steps p.tables e below (T8.setTop (mkF m 15 #[.val (.ref o0_), .val (.int (2 : Int32)), .val (.ref o1_), .val (.int (2 : Int32)), .val (.int (7 : Int32)), .val (.int (2 : Int32)), .val (.int (102 : Int32))] [])) _
    refine XS.iload X8.here hx rfl (hb hby d4_15) rfl ?_
    show Steps p.tables e below (T8.setTop (mkF m 17 #[.val (.ref o0_), .val (.int (2 : Int32)), .val (.ref o1_), .val (.int (2 : Int32)), .val (.int (7 : Int32)), .val (.int (2 : Int32)), .val (.int (102 : Int32))] [(.int (102 : Int32))])) _
    refine XS.sipush X8.here hx rfl (hb hby d4_17) ?_
    show Steps p.tables e below (T8.setTop (mkF m 20 #[.val (.ref o0_), .val (.int (2 : Int32)), .val (.ref o1_), .val (.int (2 : Int32)), .val (.int (7 : Int32)), .val (.int (2 : Int32)), .val (.int (102 : Int32))] [(.int (255 : Int32)), (.int (102 : Int32))])) _
    refine XS.icmpYes X8.here hx rfl (pc0 := 20) (pc' := 26) rfl (hb hby d4_20) rfl (flt (by decide : ¬ ((255 : Int32) < (102 : Int32)))).2.2.2 (by decide) (by decide) ?_
    show Steps p.tables e below (T8.setTop (mkF m 26 #[.val (.ref o0_), .val (.int (2 : Int32)), .val (.ref o1_), .val (.int (2 : Int32)), .val (.int (7 : Int32)), .val (.int (2 : Int32)), .val (.int (102 : Int32))] [])) _
    refine XS.aloadN X8.here hx rfl (hb hby d4_26) rfl rfl ?_
    show Steps p.tables e below (T8.setTop (mkF m 27 #[.val (.ref o0_), .val (.int (2 : Int32)), .val (.ref o1_), .val (.int (2 : Int32)), .val (.int (7 : Int32)), .val (.int (2 : Int32)), .val (.int (102 : Int32))] [(.ref o1_)])) _
    refine XS.iloadN X8.here hx rfl (hb hby d4_27) rfl ?_
    show Steps p.tables e below (T8.setTop (mkF m 28 #[.val (.ref o0_), .val (.int (2 : Int32)), .val (.ref o1_), .val (.int (2 : Int32)), .val (.int (7 : Int32)), .val (.int (2 : Int32)), .val (.int (102 : Int32))] [(.int (2 : Int32)), (.ref o1_)])) _
    refine XS.iload X8.here hx rfl (hb hby d4_28) rfl ?_
    show Steps p.tables e below (T8.setTop (mkF m 30 #[.val (.ref o0_), .val (.int (2 : Int32)), .val (.ref o1_), .val (.int (2 : Int32)), .val (.int (7 : Int32)), .val (.int (2 : Int32)), .val (.int (102 : Int32))] [(.int (102 : Int32)), (.int (2 : Int32)), (.ref o1_)])) _
    refine XS.i2b X8.here hx rfl (hb hby d4_30) rfl ?_
    show Steps p.tables e below (T8.setTop (mkF m 31 #[.val (.ref o0_), .val (.int (2 : Int32)), .val (.ref o1_), .val (.int (2 : Int32)), .val (.int (7 : Int32)), .val (.int (2 : Int32)), .val (.int (102 : Int32))] [(.int (102 : Int32)), (.int (2 : Int32)), (.ref o1_)])) _
    refine st14 _ ?_
    show Steps p.tables e below (T14.setTop (mkF m 32 #[.val (.ref o0_), .val (.int (2 : Int32)), .val (.ref o1_), .val (.int (2 : Int32)), .val (.int (7 : Int32)), .val (.int (2 : Int32)), .val (.int (102 : Int32))] [])) _
    refine XS.iinc X14.here hx rfl (hb hby d4_32) rfl (l' := #[.val (.ref o0_), .val (.int (3 : Int32)), .val (.ref o1_), .val (.int (2 : Int32)), .val (.int (7 : Int32)), .val (.int (2 : Int32)), .val (.int (102 : Int32))]) rfl ?_
    show Steps p.tables e below (T14.setTop (mkF m 35 #[.val (.ref o0_), .val (.int (3 : Int32)), .val (.ref o1_), .val (.int (2 : Int32)), .val (.int (7 : Int32)), .val (.int (2 : Int32)), .val (.int (102 : Int32))] [])) _
    refine XS.iinc X14.here hx rfl (hb hby d4_35) rfl (l' := #[.val (.ref o0_), .val (.int (3 : Int32)), .val (.ref o1_), .val (.int (3 : Int32)), .val (.int (7 : Int32)), .val (.int (2 : Int32)), .val (.int (102 : Int32))]) rfl ?_
    show Steps p.tables e below (T14.setTop (mkF m 38 #[.val (.ref o0_), .val (.int (3 : Int32)), .val (.ref o1_), .val (.int (3 : Int32)), .val (.int (7 : Int32)), .val (.int (2 : Int32)), .val (.int (102 : Int32))] [])) _
    refine XS.iinc X14.here hx rfl (hb hby d4_38) rfl (l' := #[.val (.ref o0_), .val (.int (3 : Int32)), .val (.ref o1_), .val (.int (3 : Int32)), .val (.int (7 : Int32)), .val (.int (3 : Int32)), .val (.int (102 : Int32))]) rfl ?_
    show Steps p.tables e below (T14.setTop (mkF m 41 #[.val (.ref o0_), .val (.int (3 : Int32)), .val (.ref o1_), .val (.int (3 : Int32)), .val (.int (7 : Int32)), .val (.int (3 : Int32)), .val (.int (102 : Int32))] [])) _
    refine XS.goto X14.here hx rfl (pc0 := 41) (pc' := 3) rfl (hb hby d4_41) (by decide) (by decide) ?_
    show Steps p.tables e below (T14.setTop (mkF m 3 #[.val (.ref o0_), .val (.int (3 : Int32)), .val (.ref o1_), .val (.int (3 : Int32)), .val (.int (7 : Int32)), .val (.int (3 : Int32)), .val (.int (102 : Int32))] [])) _
    refine XS.iload X14.here hx rfl (hb hby d4_3) rfl ?_
    show Steps p.tables e below (T14.setTop (mkF m 5 #[.val (.ref o0_), .val (.int (3 : Int32)), .val (.ref o1_), .val (.int (3 : Int32)), .val (.int (7 : Int32)), .val (.int (3 : Int32)), .val (.int (102 : Int32))] [(.int (3 : Int32))])) _
    refine XS.iload X14.here hx rfl (hb hby d4_5) rfl ?_
    show Steps p.tables e below (T14.setTop (mkF m 7 #[.val (.ref o0_), .val (.int (3 : Int32)), .val (.ref o1_), .val (.int (3 : Int32)), .val (.int (7 : Int32)), .val (.int (3 : Int32)), .val (.int (102 : Int32))] [(.int (7 : Int32)), (.int (3 : Int32))])) _
    refine XS.icmpNo X14.here hx rfl (hb hby d4_7) rfl (tlt (by decide : (3 : Int32) < (7 : Int32))).2.1 ?_
    show Steps p.tables e below (T14.setTop (mkF m 10 #[.val (.ref o0_), .val (.int (3 : Int32)), .val (.ref o1_), .val (.int (3 : Int32)), .val (.int (7 : Int32)), .val (.int (3 : Int32)), .val (.int (102 : Int32))] [])) _
    refine XS.aloadN X14.here hx rfl (hb hby d4_10) rfl rfl ?_
    show Steps p.tables e below (T14.setTop (mkF m 11 #[.val (.ref o0_), .val (.int (3 : Int32)), .val (.ref o1_), .val (.int (3 : Int32)), .val (.int (7 : Int32)), .val (.int (3 : Int32)), .val (.int (102 : Int32))] [(.ref o0_)])) _
    refine XS.iloadN X14.here hx rfl (hb hby d4_11) rfl ?_
    show Steps p.tables e below (T14.setTop (mkF m 12 #[.val (.ref o0_), .val (.int (3 : Int32)), .val (.ref o1_), .val (.int (3 : Int32)), .val (.int (7 : Int32)), .val (.int (3 : Int32)), .val (.int (102 : Int32))] [(.int (3 : Int32)), (.ref o0_)])) _
    refine X14.caload hx (j := (3 : Int32)) (v := (.int (117 : Int32))) (by rw [e14]; exact r19.1) (State.isArrayOf_alike hZ.alike r19.2.1) r19.2.2 hin19 hat19 (g := (mkF m 12 #[.val (.ref o0_), .val (.int (3 : Int32)), .val (.ref o1_), .val (.int (3 : Int32)), .val (.int (7 : Int32)), .val (.int (3 : Int32)), .val (.int (102 : Int32))] [(.int (3 : Int32)), (.ref o0_)])) rfl rfl (hb hby d4_12) _ ?_
    show Steps p.tables e below (T14.setTop (mkF m 13 #[.val (.ref o0_), .val (.int (3 : Int32)), .val (.ref o1_), .val (.int (3 : Int32)), .val (.int (7 : Int32)), .val (.int (3 : Int32)), .val (.int (102 : Int32))] [(.int (117 : Int32))])) _
    refine XS.istore X14.here hx rfl (hb hby d4_13) rfl (l' := #[.val (.ref o0_), .val (.int (3 : Int32)), .val (.ref o1_), .val (.int (3 : Int32)), .val (.int (7 : Int32)), .val (.int (3 : Int32)), .val (.int (117 : Int32))]) rfl ?_
    show Steps p.tables e below (T14.setTop (mkF m 15 #[.val (.ref o0_), .val (.int (3 : Int32)), .val (.ref o1_), .val (.int (3 : Int32)), .val (.int (7 : Int32)), .val (.int (3 : Int32)), .val (.int (117 : Int32))] [])) _
    refine XS.iload X14.here hx rfl (hb hby d4_15) rfl ?_
    show Steps p.tables e below (T14.setTop (mkF m 17 #[.val (.ref o0_), .val (.int (3 : Int32)), .val (.ref o1_), .val (.int (3 : Int32)), .val (.int (7 : Int32)), .val (.int (3 : Int32)), .val (.int (117 : Int32))] [(.int (117 : Int32))])) _
    refine XS.sipush X14.here hx rfl (hb hby d4_17) ?_
    show Steps p.tables e below (T14.setTop (mkF m 20 #[.val (.ref o0_), .val (.int (3 : Int32)), .val (.ref o1_), .val (.int (3 : Int32)), .val (.int (7 : Int32)), .val (.int (3 : Int32)), .val (.int (117 : Int32))] [(.int (255 : Int32)), (.int (117 : Int32))])) _
    refine XS.icmpYes X14.here hx rfl (pc0 := 20) (pc' := 26) rfl (hb hby d4_20) rfl (flt (by decide : ¬ ((255 : Int32) < (117 : Int32)))).2.2.2 (by decide) (by decide) ?_
    show Steps p.tables e below (T14.setTop (mkF m 26 #[.val (.ref o0_), .val (.int (3 : Int32)), .val (.ref o1_), .val (.int (3 : Int32)), .val (.int (7 : Int32)), .val (.int (3 : Int32)), .val (.int (117 : Int32))] [])) _
    refine XS.aloadN X14.here hx rfl (hb hby d4_26) rfl rfl ?_
    show Steps p.tables e below (T14.setTop (mkF m 27 #[.val (.ref o0_), .val (.int (3 : Int32)), .val (.ref o1_), .val (.int (3 : Int32)), .val (.int (7 : Int32)), .val (.int (3 : Int32)), .val (.int (117 : Int32))] [(.ref o1_)])) _
    refine XS.iloadN X14.here hx rfl (hb hby d4_27) rfl ?_
    show Steps p.tables e below (T14.setTop (mkF m 28 #[.val (.ref o0_), .val (.int (3 : Int32)), .val (.ref o1_), .val (.int (3 : Int32)), .val (.int (7 : Int32)), .val (.int (3 : Int32)), .val (.int (117 : Int32))] [(.int (3 : Int32)), (.ref o1_)])) _
    refine XS.iload X14.here hx rfl (hb hby d4_28) rfl ?_
    show Steps p.tables e below (T14.setTop (mkF m 30 #[.val (.ref o0_), .val (.int (3 : Int32)), .val (.ref o1_), .val (.int (3 : Int32)), .val (.int (7 : Int32)), .val (.int (3 : Int32)), .val (.int (117 : Int32))] [(.int (117 : Int32)), (.int (3 : Int32)), (.ref o1_)])) _
    refine XS.i2b X14.here hx rfl (hb hby d4_30) rfl ?_
    show Steps p.tables e below (T14.setTop (mkF m 31 #[.val (.ref o0_), .val (.int (3 : Int32)), .val (.ref o1_), .val (.int (3 : Int32)), .val (.int (7 : Int32)), .val (.int (3 : Int32)), .val (.int (117 : Int32))] [(.int (117 : Int32)), (.int (3 : Int32)), (.ref o1_)])) _
    refine st20 _ ?_
    show Steps p.tables e below (T20.setTop (mkF m 32 #[.val (.ref o0_), .val (.int (3 : Int32)), .val (.ref o1_), .val (.int (3 : Int32)), .val (.int (7 : Int32)), .val (.int (3 : Int32)), .val (.int (117 : Int32))] [])) _
    refine XS.iinc X20.here hx rfl (hb hby d4_32) rfl (l' := #[.val (.ref o0_), .val (.int (4 : Int32)), .val (.ref o1_), .val (.int (3 : Int32)), .val (.int (7 : Int32)), .val (.int (3 : Int32)), .val (.int (117 : Int32))]) rfl ?_
    show Steps p.tables e below (T20.setTop (mkF m 35 #[.val (.ref o0_), .val (.int (4 : Int32)), .val (.ref o1_), .val (.int (3 : Int32)), .val (.int (7 : Int32)), .val (.int (3 : Int32)), .val (.int (117 : Int32))] [])) _
    refine XS.iinc X20.here hx rfl (hb hby d4_35) rfl (l' := #[.val (.ref o0_), .val (.int (4 : Int32)), .val (.ref o1_), .val (.int (4 : Int32)), .val (.int (7 : Int32)), .val (.int (3 : Int32)), .val (.int (117 : Int32))]) rfl ?_
    show Steps p.tables e below (T20.setTop (mkF m 38 #[.val (.ref o0_), .val (.int (4 : Int32)), .val (.ref o1_), .val (.int (4 : Int32)), .val (.int (7 : Int32)), .val (.int (3 : Int32)), .val (.int (117 : Int32))] [])) _
    refine XS.iinc X20.here hx rfl (hb hby d4_38) rfl (l' := #[.val (.ref o0_), .val (.int (4 : Int32)), .val (.ref o1_), .val (.int (4 : Int32)), .val (.int (7 : Int32)), .val (.int (4 : Int32)), .val (.int (117 : Int32))]) rfl ?_
    show Steps p.tables e below (T20.setTop (mkF m 41 #[.val (.ref o0_), .val (.int (4 : Int32)), .val (.ref o1_), .val (.int (4 : Int32)), .val (.int (7 : Int32)), .val (.int (4 : Int32)), .val (.int (117 : Int32))] [])) _
    refine XS.goto X20.here hx rfl (pc0 := 41) (pc' := 3) rfl (hb hby d4_41) (by decide) (by decide) ?_
    show Steps p.tables e below (T20.setTop (mkF m 3 #[.val (.ref o0_), .val (.int (4 : Int32)), .val (.ref o1_), .val (.int (4 : Int32)), .val (.int (7 : Int32)), .val (.int (4 : Int32)), .val (.int (117 : Int32))] [])) _
    refine XS.iload X20.here hx rfl (hb hby d4_3) rfl ?_
    show Steps p.tables e below (T20.setTop (mkF m 5 #[.val (.ref o0_), .val (.int (4 : Int32)), .val (.ref o1_), .val (.int (4 : Int32)), .val (.int (7 : Int32)), .val (.int (4 : Int32)), .val (.int (117 : Int32))] [(.int (4 : Int32))])) _
    refine XS.iload X20.here hx rfl (hb hby d4_5) rfl ?_
    show Steps p.tables e below (T20.setTop (mkF m 7 #[.val (.ref o0_), .val (.int (4 : Int32)), .val (.ref o1_), .val (.int (4 : Int32)), .val (.int (7 : Int32)), .val (.int (4 : Int32)), .val (.int (117 : Int32))] [(.int (7 : Int32)), (.int (4 : Int32))])) _
    refine XS.icmpNo X20.here hx rfl (hb hby d4_7) rfl (tlt (by decide : (4 : Int32) < (7 : Int32))).2.1 ?_
    show Steps p.tables e below (T20.setTop (mkF m 10 #[.val (.ref o0_), .val (.int (4 : Int32)), .val (.ref o1_), .val (.int (4 : Int32)), .val (.int (7 : Int32)), .val (.int (4 : Int32)), .val (.int (117 : Int32))] [])) _
    refine XS.aloadN X20.here hx rfl (hb hby d4_10) rfl rfl ?_
    show Steps p.tables e below (T20.setTop (mkF m 11 #[.val (.ref o0_), .val (.int (4 : Int32)), .val (.ref o1_), .val (.int (4 : Int32)), .val (.int (7 : Int32)), .val (.int (4 : Int32)), .val (.int (117 : Int32))] [(.ref o0_)])) _
    refine XS.iloadN X20.here hx rfl (hb hby d4_11) rfl ?_
    show Steps p.tables e below (T20.setTop (mkF m 12 #[.val (.ref o0_), .val (.int (4 : Int32)), .val (.ref o1_), .val (.int (4 : Int32)), .val (.int (7 : Int32)), .val (.int (4 : Int32)), .val (.int (117 : Int32))] [(.int (4 : Int32)), (.ref o0_)])) _
    refine X20.caload hx (j := (4 : Int32)) (v := (.int (115 : Int32))) (by rw [e20]; exact r25.1) (State.isArrayOf_alike hZ.alike r25.2.1) r25.2.2 hin25 hat25 (g := (mkF m 12 #[.val (.ref o0_), .val (.int (4 : Int32)), .val (.ref o1_), .val (.int (4 : Int32)), .val (.int (7 : Int32)), .val (.int (4 : Int32)), .val (.int (117 : Int32))] [(.int (4 : Int32)), (.ref o0_)])) rfl rfl (hb hby d4_12) _ ?_
    show Steps p.tables e below (T20.setTop (mkF m 13 #[.val (.ref o0_), .val (.int (4 : Int32)), .val (.ref o1_), .val (.int (4 : Int32)), .val (.int (7 : Int32)), .val (.int (4 : Int32)), .val (.int (117 : Int32))] [(.int (115 : Int32))])) _
    refine XS.istore X20.here hx rfl (hb hby d4_13) rfl (l' := #[.val (.ref o0_), .val (.int (4 : Int32)), .val (.ref o1_), .val (.int (4 : Int32)), .val (.int (7 : Int32)), .val (.int (4 : Int32)), .val (.int (115 : Int32))]) rfl ?_
    show Steps p.tables e below (T20.setTop (mkF m 15 #[.val (.ref o0_), .val (.int (4 : Int32)), .val (.ref o1_), .val (.int (4 : Int32)), .val (.int (7 : Int32)), .val (.int (4 : Int32)), .val (.int (115 : Int32))] [])) _
    refine XS.iload X20.here hx rfl (hb hby d4_15) rfl ?_
    show Steps p.tables e below (T20.setTop (mkF m 17 #[.val (.ref o0_), .val (.int (4 : Int32)), .val (.ref o1_), .val (.int (4 : Int32)), .val (.int (7 : Int32)), .val (.int (4 : Int32)), .val (.int (115 : Int32))] [(.int (115 : Int32))])) _
    refine XS.sipush X20.here hx rfl (hb hby d4_17) ?_
    show Steps p.tables e below (T20.setTop (mkF m 20 #[.val (.ref o0_), .val (.int (4 : Int32)), .val (.ref o1_), .val (.int (4 : Int32)), .val (.int (7 : Int32)), .val (.int (4 : Int32)), .val (.int (115 : Int32))] [(.int (255 : Int32)), (.int (115 : Int32))])) _
    refine XS.icmpYes X20.here hx rfl (pc0 := 20) (pc' := 26) rfl (hb hby d4_20) rfl (flt (by decide : ¬ ((255 : Int32) < (115 : Int32)))).2.2.2 (by decide) (by decide) ?_
    show Steps p.tables e below (T20.setTop (mkF m 26 #[.val (.ref o0_), .val (.int (4 : Int32)), .val (.ref o1_), .val (.int (4 : Int32)), .val (.int (7 : Int32)), .val (.int (4 : Int32)), .val (.int (115 : Int32))] [])) _
    refine XS.aloadN X20.here hx rfl (hb hby d4_26) rfl rfl ?_
    show Steps p.tables e below (T20.setTop (mkF m 27 #[.val (.ref o0_), .val (.int (4 : Int32)), .val (.ref o1_), .val (.int (4 : Int32)), .val (.int (7 : Int32)), .val (.int (4 : Int32)), .val (.int (115 : Int32))] [(.ref o1_)])) _
    refine XS.iloadN X20.here hx rfl (hb hby d4_27) rfl ?_
    show Steps p.tables e below (T20.setTop (mkF m 28 #[.val (.ref o0_), .val (.int (4 : Int32)), .val (.ref o1_), .val (.int (4 : Int32)), .val (.int (7 : Int32)), .val (.int (4 : Int32)), .val (.int (115 : Int32))] [(.int (4 : Int32)), (.ref o1_)])) _
    refine XS.iload X20.here hx rfl (hb hby d4_28) rfl ?_
    show Steps p.tables e below (T20.setTop (mkF m 30 #[.val (.ref o0_), .val (.int (4 : Int32)), .val (.ref o1_), .val (.int (4 : Int32)), .val (.int (7 : Int32)), .val (.int (4 : Int32)), .val (.int (115 : Int32))] [(.int (115 : Int32)), (.int (4 : Int32)), (.ref o1_)])) _
    refine XS.i2b X20.here hx rfl (hb hby d4_30) rfl ?_
    show Steps p.tables e below (T20.setTop (mkF m 31 #[.val (.ref o0_), .val (.int (4 : Int32)), .val (.ref o1_), .val (.int (4 : Int32)), .val (.int (7 : Int32)), .val (.int (4 : Int32)), .val (.int (115 : Int32))] [(.int (115 : Int32)), (.int (4 : Int32)), (.ref o1_)])) _
    refine st26 _ ?_
    show Steps p.tables e below (T26.setTop (mkF m 32 #[.val (.ref o0_), .val (.int (4 : Int32)), .val (.ref o1_), .val (.int (4 : Int32)), .val (.int (7 : Int32)), .val (.int (4 : Int32)), .val (.int (115 : Int32))] [])) _
    refine XS.iinc X26.here hx rfl (hb hby d4_32) rfl (l' := #[.val (.ref o0_), .val (.int (5 : Int32)), .val (.ref o1_), .val (.int (4 : Int32)), .val (.int (7 : Int32)), .val (.int (4 : Int32)), .val (.int (115 : Int32))]) rfl ?_
    show Steps p.tables e below (T26.setTop (mkF m 35 #[.val (.ref o0_), .val (.int (5 : Int32)), .val (.ref o1_), .val (.int (4 : Int32)), .val (.int (7 : Int32)), .val (.int (4 : Int32)), .val (.int (115 : Int32))] [])) _
    refine XS.iinc X26.here hx rfl (hb hby d4_35) rfl (l' := #[.val (.ref o0_), .val (.int (5 : Int32)), .val (.ref o1_), .val (.int (5 : Int32)), .val (.int (7 : Int32)), .val (.int (4 : Int32)), .val (.int (115 : Int32))]) rfl ?_
    show Steps p.tables e below (T26.setTop (mkF m 38 #[.val (.ref o0_), .val (.int (5 : Int32)), .val (.ref o1_), .val (.int (5 : Int32)), .val (.int (7 : Int32)), .val (.int (4 : Int32)), .val (.int (115 : Int32))] [])) _
    refine XS.iinc X26.here hx rfl (hb hby d4_38) rfl (l' := #[.val (.ref o0_), .val (.int (5 : Int32)), .val (.ref o1_), .val (.int (5 : Int32)), .val (.int (7 : Int32)), .val (.int (5 : Int32)), .val (.int (115 : Int32))]) rfl ?_
    show Steps p.tables e below (T26.setTop (mkF m 41 #[.val (.ref o0_), .val (.int (5 : Int32)), .val (.ref o1_), .val (.int (5 : Int32)), .val (.int (7 : Int32)), .val (.int (5 : Int32)), .val (.int (115 : Int32))] [])) _
    refine XS.goto X26.here hx rfl (pc0 := 41) (pc' := 3) rfl (hb hby d4_41) (by decide) (by decide) ?_
    show Steps p.tables e below (T26.setTop (mkF m 3 #[.val (.ref o0_), .val (.int (5 : Int32)), .val (.ref o1_), .val (.int (5 : Int32)), .val (.int (7 : Int32)), .val (.int (5 : Int32)), .val (.int (115 : Int32))] [])) _
    refine XS.iload X26.here hx rfl (hb hby d4_3) rfl ?_
    show Steps p.tables e below (T26.setTop (mkF m 5 #[.val (.ref o0_), .val (.int (5 : Int32)), .val (.ref o1_), .val (.int (5 : Int32)), .val (.int (7 : Int32)), .val (.int (5 : Int32)), .val (.int (115 : Int32))] [(.int (5 : Int32))])) _
    refine XS.iload X26.here hx rfl (hb hby d4_5) rfl ?_
    show Steps p.tables e below (T26.setTop (mkF m 7 #[.val (.ref o0_), .val (.int (5 : Int32)), .val (.ref o1_), .val (.int (5 : Int32)), .val (.int (7 : Int32)), .val (.int (5 : Int32)), .val (.int (115 : Int32))] [(.int (7 : Int32)), (.int (5 : Int32))])) _
    refine XS.icmpNo X26.here hx rfl (hb hby d4_7) rfl (tlt (by decide : (5 : Int32) < (7 : Int32))).2.1 ?_
    show Steps p.tables e below (T26.setTop (mkF m 10 #[.val (.ref o0_), .val (.int (5 : Int32)), .val (.ref o1_), .val (.int (5 : Int32)), .val (.int (7 : Int32)), .val (.int (5 : Int32)), .val (.int (115 : Int32))] [])) _
    refine XS.aloadN X26.here hx rfl (hb hby d4_10) rfl rfl ?_
    show Steps p.tables e below (T26.setTop (mkF m 11 #[.val (.ref o0_), .val (.int (5 : Int32)), .val (.ref o1_), .val (.int (5 : Int32)), .val (.int (7 : Int32)), .val (.int (5 : Int32)), .val (.int (115 : Int32))] [(.ref o0_)])) _
    refine XS.iloadN X26.here hx rfl (hb hby d4_11) rfl ?_
    show Steps p.tables e below (T26.setTop (mkF m 12 #[.val (.ref o0_), .val (.int (5 : Int32)), .val (.ref o1_), .val (.int (5 : Int32)), .val (.int (7 : Int32)), .val (.int (5 : Int32)), .val (.int (115 : Int32))] [(.int (5 : Int32)), (.ref o0_)])) _
    refine X26.caload hx (j := (5 : Int32)) (v := (.int (101 : Int32))) (by rw [e26]; exact r31.1) (State.isArrayOf_alike hZ.alike r31.2.1) r31.2.2 hin31 hat31 (g := (mkF m 12 #[.val (.ref o0_), .val (.int (5 : Int32)), .val (.ref o1_), .val (.int (5 : Int32)), .val (.int (7 : Int32)), .val (.int (5 : Int32)), .val (.int (115 : Int32))] [(.int (5 : Int32)), (.ref o0_)])) rfl rfl (hb hby d4_12) _ ?_
    show Steps p.tables e below (T26.setTop (mkF m 13 #[.val (.ref o0_), .val (.int (5 : Int32)), .val (.ref o1_), .val (.int (5 : Int32)), .val (.int (7 : Int32)), .val (.int (5 : Int32)), .val (.int (115 : Int32))] [(.int (101 : Int32))])) _
    refine XS.istore X26.here hx rfl (hb hby d4_13) rfl (l' := #[.val (.ref o0_), .val (.int (5 : Int32)), .val (.ref o1_), .val (.int (5 : Int32)), .val (.int (7 : Int32)), .val (.int (5 : Int32)), .val (.int (101 : Int32))]) rfl ?_
    show Steps p.tables e below (T26.setTop (mkF m 15 #[.val (.ref o0_), .val (.int (5 : Int32)), .val (.ref o1_), .val (.int (5 : Int32)), .val (.int (7 : Int32)), .val (.int (5 : Int32)), .val (.int (101 : Int32))] [])) _
    refine XS.iload X26.here hx rfl (hb hby d4_15) rfl ?_
    show Steps p.tables e below (T26.setTop (mkF m 17 #[.val (.ref o0_), .val (.int (5 : Int32)), .val (.ref o1_), .val (.int (5 : Int32)), .val (.int (7 : Int32)), .val (.int (5 : Int32)), .val (.int (101 : Int32))] [(.int (101 : Int32))])) _
    refine XS.sipush X26.here hx rfl (hb hby d4_17) ?_
    show Steps p.tables e below (T26.setTop (mkF m 20 #[.val (.ref o0_), .val (.int (5 : Int32)), .val (.ref o1_), .val (.int (5 : Int32)), .val (.int (7 : Int32)), .val (.int (5 : Int32)), .val (.int (101 : Int32))] [(.int (255 : Int32)), (.int (101 : Int32))])) _
    refine XS.icmpYes X26.here hx rfl (pc0 := 20) (pc' := 26) rfl (hb hby d4_20) rfl (flt (by decide : ¬ ((255 : Int32) < (101 : Int32)))).2.2.2 (by decide) (by decide) ?_
    show Steps p.tables e below (T26.setTop (mkF m 26 #[.val (.ref o0_), .val (.int (5 : Int32)), .val (.ref o1_), .val (.int (5 : Int32)), .val (.int (7 : Int32)), .val (.int (5 : Int32)), .val (.int (101 : Int32))] [])) _
    refine XS.aloadN X26.here hx rfl (hb hby d4_26) rfl rfl ?_
    show Steps p.tables e below (T26.setTop (mkF m 27 #[.val (.ref o0_), .val (.int (5 : Int32)), .val (.ref o1_), .val (.int (5 : Int32)), .val (.int (7 : Int32)), .val (.int (5 : Int32)), .val (.int (101 : Int32))] [(.ref o1_)])) _
    refine XS.iloadN X26.here hx rfl (hb hby d4_27) rfl ?_
    show Steps p.tables e below (T26.setTop (mkF m 28 #[.val (.ref o0_), .val (.int (5 : Int32)), .val (.ref o1_), .val (.int (5 : Int32)), .val (.int (7 : Int32)), .val (.int (5 : Int32)), .val (.int (101 : Int32))] [(.int (5 : Int32)), (.ref o1_)])) _
    refine XS.iload X26.here hx rfl (hb hby d4_28) rfl ?_
    show Steps p.tables e below (T26.setTop (mkF m 30 #[.val (.ref o0_), .val (.int (5 : Int32)), .val (.ref o1_), .val (.int (5 : Int32)), .val (.int (7 : Int32)), .val (.int (5 : Int32)), .val (.int (101 : Int32))] [(.int (101 : Int32)), (.int (5 : Int32)), (.ref o1_)])) _
    refine XS.i2b X26.here hx rfl (hb hby d4_30) rfl ?_
    show Steps p.tables e below (T26.setTop (mkF m 31 #[.val (.ref o0_), .val (.int (5 : Int32)), .val (.ref o1_), .val (.int (5 : Int32)), .val (.int (7 : Int32)), .val (.int (5 : Int32)), .val (.int (101 : Int32))] [(.int (101 : Int32)), (.int (5 : Int32)), (.ref o1_)])) _
    refine st32 _ ?_
    show Steps p.tables e below (T32.setTop (mkF m 32 #[.val (.ref o0_), .val (.int (5 : Int32)), .val (.ref o1_), .val (.int (5 : Int32)), .val (.int (7 : Int32)), .val (.int (5 : Int32)), .val (.int (101 : Int32))] [])) _
    refine XS.iinc X32.here hx rfl (hb hby d4_32) rfl (l' := #[.val (.ref o0_), .val (.int (6 : Int32)), .val (.ref o1_), .val (.int (5 : Int32)), .val (.int (7 : Int32)), .val (.int (5 : Int32)), .val (.int (101 : Int32))]) rfl ?_
    show Steps p.tables e below (T32.setTop (mkF m 35 #[.val (.ref o0_), .val (.int (6 : Int32)), .val (.ref o1_), .val (.int (5 : Int32)), .val (.int (7 : Int32)), .val (.int (5 : Int32)), .val (.int (101 : Int32))] [])) _
    refine XS.iinc X32.here hx rfl (hb hby d4_35) rfl (l' := #[.val (.ref o0_), .val (.int (6 : Int32)), .val (.ref o1_), .val (.int (6 : Int32)), .val (.int (7 : Int32)), .val (.int (5 : Int32)), .val (.int (101 : Int32))]) rfl ?_
    show Steps p.tables e below (T32.setTop (mkF m 38 #[.val (.ref o0_), .val (.int (6 : Int32)), .val (.ref o1_), .val (.int (6 : Int32)), .val (.int (7 : Int32)), .val (.int (5 : Int32)), .val (.int (101 : Int32))] [])) _
    refine XS.iinc X32.here hx rfl (hb hby d4_38) rfl (l' := #[.val (.ref o0_), .val (.int (6 : Int32)), .val (.ref o1_), .val (.int (6 : Int32)), .val (.int (7 : Int32)), .val (.int (6 : Int32)), .val (.int (101 : Int32))]) rfl ?_
    show Steps p.tables e below (T32.setTop (mkF m 41 #[.val (.ref o0_), .val (.int (6 : Int32)), .val (.ref o1_), .val (.int (6 : Int32)), .val (.int (7 : Int32)), .val (.int (6 : Int32)), .val (.int (101 : Int32))] [])) _
    refine XS.goto X32.here hx rfl (pc0 := 41) (pc' := 3) rfl (hb hby d4_41) (by decide) (by decide) ?_
    show Steps p.tables e below (T32.setTop (mkF m 3 #[.val (.ref o0_), .val (.int (6 : Int32)), .val (.ref o1_), .val (.int (6 : Int32)), .val (.int (7 : Int32)), .val (.int (6 : Int32)), .val (.int (101 : Int32))] [])) _
    refine XS.iload X32.here hx rfl (hb hby d4_3) rfl ?_
    show Steps p.tables e below (T32.setTop (mkF m 5 #[.val (.ref o0_), .val (.int (6 : Int32)), .val (.ref o1_), .val (.int (6 : Int32)), .val (.int (7 : Int32)), .val (.int (6 : Int32)), .val (.int (101 : Int32))] [(.int (6 : Int32))])) _
    refine XS.iload X32.here hx rfl (hb hby d4_5) rfl ?_
    show Steps p.tables e below (T32.setTop (mkF m 7 #[.val (.ref o0_), .val (.int (6 : Int32)), .val (.ref o1_), .val (.int (6 : Int32)), .val (.int (7 : Int32)), .val (.int (6 : Int32)), .val (.int (101 : Int32))] [(.int (7 : Int32)), (.int (6 : Int32))])) _
    refine XS.icmpNo X32.here hx rfl (hb hby d4_7) rfl (tlt (by decide : (6 : Int32) < (7 : Int32))).2.1 ?_
    show Steps p.tables e below (T32.setTop (mkF m 10 #[.val (.ref o0_), .val (.int (6 : Int32)), .val (.ref o1_), .val (.int (6 : Int32)), .val (.int (7 : Int32)), .val (.int (6 : Int32)), .val (.int (101 : Int32))] [])) _
    refine XS.aloadN X32.here hx rfl (hb hby d4_10) rfl rfl ?_
    show Steps p.tables e below (T32.setTop (mkF m 11 #[.val (.ref o0_), .val (.int (6 : Int32)), .val (.ref o1_), .val (.int (6 : Int32)), .val (.int (7 : Int32)), .val (.int (6 : Int32)), .val (.int (101 : Int32))] [(.ref o0_)])) _
    refine XS.iloadN X32.here hx rfl (hb hby d4_11) rfl ?_
    show Steps p.tables e below (T32.setTop (mkF m 12 #[.val (.ref o0_), .val (.int (6 : Int32)), .val (.ref o1_), .val (.int (6 : Int32)), .val (.int (7 : Int32)), .val (.int (6 : Int32)), .val (.int (101 : Int32))] [(.int (6 : Int32)), (.ref o0_)])) _
    refine X32.caload hx (j := (6 : Int32)) (v := (.int (100 : Int32))) (by rw [e32]; exact r37.1) (State.isArrayOf_alike hZ.alike r37.2.1) r37.2.2 hin37 hat37 (g := (mkF m 12 #[.val (.ref o0_), .val (.int (6 : Int32)), .val (.ref o1_), .val (.int (6 : Int32)), .val (.int (7 : Int32)), .val (.int (6 : Int32)), .val (.int (101 : Int32))] [(.int (6 : Int32)), (.ref o0_)])) rfl rfl (hb hby d4_12) _ ?_
    show Steps p.tables e below (T32.setTop (mkF m 13 #[.val (.ref o0_), .val (.int (6 : Int32)), .val (.ref o1_), .val (.int (6 : Int32)), .val (.int (7 : Int32)), .val (.int (6 : Int32)), .val (.int (101 : Int32))] [(.int (100 : Int32))])) _
    refine XS.istore X32.here hx rfl (hb hby d4_13) rfl (l' := #[.val (.ref o0_), .val (.int (6 : Int32)), .val (.ref o1_), .val (.int (6 : Int32)), .val (.int (7 : Int32)), .val (.int (6 : Int32)), .val (.int (100 : Int32))]) rfl ?_
    show Steps p.tables e below (T32.setTop (mkF m 15 #[.val (.ref o0_), .val (.int (6 : Int32)), .val (.ref o1_), .val (.int (6 : Int32)), .val (.int (7 : Int32)), .val (.int (6 : Int32)), .val (.int (100 : Int32))] [])) _
    refine XS.iload X32.here hx rfl (hb hby d4_15) rfl ?_
    show Steps p.tables e below (T32.setTop (mkF m 17 #[.val (.ref o0_), .val (.int (6 : Int32)), .val (.ref o1_), .val (.int (6 : Int32)), .val (.int (7 : Int32)), .val (.int (6 : Int32)), .val (.int (100 : Int32))] [(.int (100 : Int32))])) _
    refine XS.sipush X32.here hx rfl (hb hby d4_17) ?_
    show Steps p.tables e below (T32.setTop (mkF m 20 #[.val (.ref o0_), .val (.int (6 : Int32)), .val (.ref o1_), .val (.int (6 : Int32)), .val (.int (7 : Int32)), .val (.int (6 : Int32)), .val (.int (100 : Int32))] [(.int (255 : Int32)), (.int (100 : Int32))])) _
    refine XS.icmpYes X32.here hx rfl (pc0 := 20) (pc' := 26) rfl (hb hby d4_20) rfl (flt (by decide : ¬ ((255 : Int32) < (100 : Int32)))).2.2.2 (by decide) (by decide) ?_
    show Steps p.tables e below (T32.setTop (mkF m 26 #[.val (.ref o0_), .val (.int (6 : Int32)), .val (.ref o1_), .val (.int (6 : Int32)), .val (.int (7 : Int32)), .val (.int (6 : Int32)), .val (.int (100 : Int32))] [])) _
    refine XS.aloadN X32.here hx rfl (hb hby d4_26) rfl rfl ?_
    show Steps p.tables e below (T32.setTop (mkF m 27 #[.val (.ref o0_), .val (.int (6 : Int32)), .val (.ref o1_), .val (.int (6 : Int32)), .val (.int (7 : Int32)), .val (.int (6 : Int32)), .val (.int (100 : Int32))] [(.ref o1_)])) _
    refine XS.iloadN X32.here hx rfl (hb hby d4_27) rfl ?_
    show Steps p.tables e below (T32.setTop (mkF m 28 #[.val (.ref o0_), .val (.int (6 : Int32)), .val (.ref o1_), .val (.int (6 : Int32)), .val (.int (7 : Int32)), .val (.int (6 : Int32)), .val (.int (100 : Int32))] [(.int (6 : Int32)), (.ref o1_)])) _
    refine XS.iload X32.here hx rfl (hb hby d4_28) rfl ?_
    show Steps p.tables e below (T32.setTop (mkF m 30 #[.val (.ref o0_), .val (.int (6 : Int32)), .val (.ref o1_), .val (.int (6 : Int32)), .val (.int (7 : Int32)), .val (.int (6 : Int32)), .val (.int (100 : Int32))] [(.int (100 : Int32)), (.int (6 : Int32)), (.ref o1_)])) _
    refine XS.i2b X32.here hx rfl (hb hby d4_30) rfl ?_
    show Steps p.tables e below (T32.setTop (mkF m 31 #[.val (.ref o0_), .val (.int (6 : Int32)), .val (.ref o1_), .val (.int (6 : Int32)), .val (.int (7 : Int32)), .val (.int (6 : Int32)), .val (.int (100 : Int32))] [(.int (100 : Int32)), (.int (6 : Int32)), (.ref o1_)])) _
    refine st38 _ ?_
    show Steps p.tables e below (T38.setTop (mkF m 32 #[.val (.ref o0_), .val (.int (6 : Int32)), .val (.ref o1_), .val (.int (6 : Int32)), .val (.int (7 : Int32)), .val (.int (6 : Int32)), .val (.int (100 : Int32))] [])) _
    refine XS.iinc X38.here hx rfl (hb hby d4_32) rfl (l' := #[.val (.ref o0_), .val (.int (7 : Int32)), .val (.ref o1_), .val (.int (6 : Int32)), .val (.int (7 : Int32)), .val (.int (6 : Int32)), .val (.int (100 : Int32))]) rfl ?_
    show Steps p.tables e below (T38.setTop (mkF m 35 #[.val (.ref o0_), .val (.int (7 : Int32)), .val (.ref o1_), .val (.int (6 : Int32)), .val (.int (7 : Int32)), .val (.int (6 : Int32)), .val (.int (100 : Int32))] [])) _
    refine XS.iinc X38.here hx rfl (hb hby d4_35) rfl (l' := #[.val (.ref o0_), .val (.int (7 : Int32)), .val (.ref o1_), .val (.int (7 : Int32)), .val (.int (7 : Int32)), .val (.int (6 : Int32)), .val (.int (100 : Int32))]) rfl ?_
    show Steps p.tables e below (T38.setTop (mkF m 38 #[.val (.ref o0_), .val (.int (7 : Int32)), .val (.ref o1_), .val (.int (7 : Int32)), .val (.int (7 : Int32)), .val (.int (6 : Int32)), .val (.int (100 : Int32))] [])) _
    refine XS.iinc X38.here hx rfl (hb hby d4_38) rfl (l' := #[.val (.ref o0_), .val (.int (7 : Int32)), .val (.ref o1_), .val (.int (7 : Int32)), .val (.int (7 : Int32)), .val (.int (7 : Int32)), .val (.int (100 : Int32))]) rfl ?_
    show Steps p.tables e below (T38.setTop (mkF m 41 #[.val (.ref o0_), .val (.int (7 : Int32)), .val (.ref o1_), .val (.int (7 : Int32)), .val (.int (7 : Int32)), .val (.int (7 : Int32)), .val (.int (100 : Int32))] [])) _
    refine XS.goto X38.here hx rfl (pc0 := 41) (pc' := 3) rfl (hb hby d4_41) (by decide) (by decide) ?_
    show Steps p.tables e below (T38.setTop (mkF m 3 #[.val (.ref o0_), .val (.int (7 : Int32)), .val (.ref o1_), .val (.int (7 : Int32)), .val (.int (7 : Int32)), .val (.int (7 : Int32)), .val (.int (100 : Int32))] [])) _
    refine XS.iload X38.here hx rfl (hb hby d4_3) rfl ?_
    show Steps p.tables e below (T38.setTop (mkF m 5 #[.val (.ref o0_), .val (.int (7 : Int32)), .val (.ref o1_), .val (.int (7 : Int32)), .val (.int (7 : Int32)), .val (.int (7 : Int32)), .val (.int (100 : Int32))] [(.int (7 : Int32))])) _
    refine XS.iload X38.here hx rfl (hb hby d4_5) rfl ?_
    show Steps p.tables e below (T38.setTop (mkF m 7 #[.val (.ref o0_), .val (.int (7 : Int32)), .val (.ref o1_), .val (.int (7 : Int32)), .val (.int (7 : Int32)), .val (.int (7 : Int32)), .val (.int (100 : Int32))] [(.int (7 : Int32)), (.int (7 : Int32))])) _
    refine XS.icmpYes X38.here hx rfl (pc0 := 7) (pc' := 44) rfl (hb hby d4_7) rfl (flt (by decide : ¬ ((7 : Int32) < (7 : Int32)))).2.1 (by decide) (by decide) ?_
    show Steps p.tables e below (T38.setTop (mkF m 44 #[.val (.ref o0_), .val (.int (7 : Int32)), .val (.ref o1_), .val (.int (7 : Int32)), .val (.int (7 : Int32)), .val (.int (7 : Int32)), .val (.int (100 : Int32))] [])) _
    refine XS.iload X38.here hx rfl (hb hby d4_44) rfl ?_
    exact kt
  have f44 : Keep h0 h2 [o1_] := K0.wr W2 (Or.inl (List.mem_of_getElem? (i := 0) rfl))
  have f45 : Keep h0 h8 [o1_] := f44.wr W8 (Or.inl (List.mem_of_getElem? (i := 0) rfl))
  have f46 : Keep h0 h14 [o1_] := f45.wr W14 (Or.inl (List.mem_of_getElem? (i := 0) rfl))
  have f47 : Keep h0 h20 [o1_] := f46.wr W20 (Or.inl (List.mem_of_getElem? (i := 0) rfl))
  have f48 : Keep h0 h26 [o1_] := f47.wr W26 (Or.inl (List.mem_of_getElem? (i := 0) rfl))
  have f49 : Keep h0 h32 [o1_] := f48.wr W32 (Or.inl (List.mem_of_getElem? (i := 0) rfl))
  have f50 : Keep h0 h38 [o1_] := f49.wr W38 (Or.inl (List.mem_of_getElem? (i := 0) rfl))
  have f51 : Exa Z h2 o1_ "[B" := P3.wr W2
  have f52 : Exa Z h8 o1_ "[B" := f51.wr W8
  have f53 : Exa Z h14 o1_ "[B" := f52.wr W14
  have f54 : Exa Z h20 o1_ "[B" := f53.wr W20
  have f55 : Exa Z h26 o1_ "[B" := f54.wr W26
  have f56 : Exa Z h32 o1_ "[B" := f55.wr W32
  have f57 : Exa Z h38 o1_ "[B" := f56.wr W38
  obtain ⟨fs, hr, hrun, hended, hW, hsame⟩ := X38.leave (v := some (.int (7 : Int32))) (fun h => by rw [Bd.returns] at h; cases h)
  refine ⟨_, _, pre42 _ (retOut X38 hx Bd.returns rfl (Or.inl ⟨rfl, Or.inl rfl, _, rfl⟩) (hb hby d4_46) hr), hrun, hended, _, _, rfl, ?_, ⟨_, rfl⟩, hW, hsame.mono (by decide) (by decide)⟩
  show Qcompress18 Z o0_ o1_ ko0_ ko1_ h0 n0 _ T38.heap _
  rw [e38]
  exact ⟨rfl, N39, f50, f41, f57⟩
theorem efcompress17 (m : MethodId) (o0_ : Addr) : entryFrame m #[(.ref o0_), (.int (0 : Int32)), (.int (7 : Int32))] 6 = mkF m 0 #[.val (.ref o0_), .val (.int (0 : Int32)), .val (.int (7 : Int32)), .unset, .unset, .unset] [] := by first | (simp [entryFrame, mkF, argsToLocals, Value.category]; done) | rfl
def Qcompress17 (Z : State) (o0_ : Addr) (ko0_ : ClassId) (h0 : Heap) (n0 : Nat) (v : Option Value) (h : Heap) (L : List Loc) : Prop := ∃ k1 : ClassId, ∃ nb1 : Addr, v = some (.ref nb1) ∧ Fr n0 L ∧ Keep h0 h [] ∧ h0.size ≤ nb1 ∧ Arv Z h nb1 k1 .byte (7 : Int32) [(.int (114 : Int32)), (.int (101 : Int32)), (.int (102 : Int32)), (.int (117 : Int32)), (.int (115 : Int32)), (.int (101 : Int32)), (.int (100 : Int32))] (.int (0 : Int32)) ∧ Exa Z h nb1 "[B"
set_option maxRecDepth 65536 in
set_option maxHeartbeats 40000000 in
theorem rmcompress17 (l : Launch) (Z : State) (a0 : Array Value) (hw : ∀ d ∈ tables_1, d.before a0 Z = true) (ws : List Jvm.Cond) (o0_ : Addr) (ko0_ : ClassId) (h0 : Heap) (n0 : Nat) (O0 : Old Z n0 h0) (P0 : Arv Z h0 o0_ ko0_ .char (7 : Int32) [(.int (114 : Int32)), (.int (101 : Int32)), (.int (102 : Int32)), (.int (117 : Int32)), (.int (115 : Int32)), (.int (101 : Int32)), (.int (100 : Int32))] (.int (0 : Int32))) (P1 : Exa Z h0 o0_ "[C") :
    MetFree l (⟨"java/lang/StringUTF16", "compress", "([CII)[B"⟩ : MethodName) (head1 (Jvm.Cond.code (⟨"java/lang/StringUTF16", "compress", "([CII)[B"⟩ : MethodName) jdk_52_method_16_code 6 (some (.array .byte)) :: ws) ({ frames := 1, cells := 1, slots := 7, locals := 18 } : Room)) (fun a U => a = #[(.ref o0_), (.int (0 : Int32)), (.int (7 : Int32))] ∧ Z.Warmed39 U.vm ∧ U.heap = h0) (fun _ _ _ _ _ => True) (fun _ U o U' => ∃ v L, o = .returned v ∧ Qcompress17 Z o0_ ko0_ h0 n0 v U'.heap L ∧ FrameEnd U o U' L ({ frames := 1, cells := 1, slots := 7, locals := 18 } : Room).cells ({ frames := 1, cells := 1, slots := 7, locals := 18 } : Room).slots) := by
  refine MetFree.of_bodySF (plainFor_of_name pn_0) hisR ?_
  intro p e s m args below meth c s₁ Bd hml0 hP hK
  obtain ⟨rfl, hZ, hh⟩ := hP
  have hx := Bd.exec
  have hby := Bd.bytes
  have hml : c.maxLocals = 6 := hml0
  have hown : s.vm.findClass "java/lang/StringUTF16" = some m.cls := findClass_of_methodNamed Bd.named
  have hnm := (name_of_methodNamed Bd.named Bd.method).1
  have X0 : Stand p l e ({ frames := 1, cells := 1, slots := 7, locals := 18 } : Room) s m #[(.ref o0_), (.int (0 : Int32)), (.int (7 : Int32))] below meth c s₁ [] 0 0 := Stand.of_body Bd
  have e0 : s₁.heap = h0 := by rw [← hh, Bd.state]; rfl
  have N0 := Fr.nil n0
  have pre0 : ∀ t, Steps p.tables e below (s₁.setTop (mkF m 0 #[.val (.ref o0_), .val (.int (0 : Int32)), .val (.int (7 : Int32)), .unset, .unset, .unset] [])) t → Steps p.tables e below (s₁.setTop (entryFrame m #[(.ref o0_), (.int (0 : Int32)), (.int (7 : Int32))] 6)) t := fun t k => castTop (efcompress17 m o0_) k
  have K0 : Keep h0 h0 [] := Keep.refl _ _
  obtain ⟨T1, h1, k1, X1, e1, E1, A1, Z1, st1⟩ := newPE X0 hx hZ (hw _ (List.mem_of_getElem? (i := 23) rfl)) e0 (g := (mkF m 1 #[.val (.ref o0_), .val (.int (0 : Int32)), .val (.int (7 : Int32)), .unset, .unset, .unset] [(.int (7 : Int32))])) rfl (hb hby d3_1) rfl (by decide) (cap := 7) (by decide) (by decide) (by decide) (by decide) (ad := "[B") (by decide)
  obtain ⟨b1, g1⟩ : ∃ z, z = h0.size := ⟨_, rfl⟩
  rw [← g1] at A1 Z1 st1
  have ge2 : n0 ≤ b1 := Nat.le_trans (Nat.le_trans (Nat.le_of_eq O0.1.symm) O0.2.1) (Nat.le_of_eq g1.symm)
  have sz3 : h0.size ≤ b1 := Nat.le_trans K0.1 (Nat.le_of_eq g1.symm)
  have f4 : Arv Z h1 b1 k1 .byte (7 : Int32) [(.int (0 : Int32)), (.int (0 : Int32)), (.int (0 : Int32)), (.int (0 : Int32)), (.int (0 : Int32)), (.int (0 : Int32)), (.int (0 : Int32))] (.int (0 : Int32)) := (Arv.new A1 (by decide)).pad (pad_rep [] (.int (0 : Int32)) 7)
  have f6 : Arv Z h1 o0_ ko0_ .char (7 : Int32) [(.int (114 : Int32)), (.int (101 : Int32)), (.int (102 : Int32)), (.int (117 : Int32)), (.int (115 : Int32)), (.int (101 : Int32)), (.int (100 : Int32))] (.int (0 : Int32)) := P0.ext E1
  have f7 : Exa Z h1 o0_ "[C" := P1.ext E1
  have ne8 : o0_ ≠ b1 := Nat.ne_of_lt (Nat.lt_of_lt_of_le P0.lt (Nat.le_of_eq g1.symm))
  have f9 : Old Z n0 h1 := O0.ext E1
  obtain ⟨_, _, ⟨T5, L5, k5, n5⟩, -, X5, ⟨Lc5, hQ5, l5, y5, z5⟩, st5⟩ := Jvm.LawKit.callS X1 hx (y := (⟨"java/lang/StringUTF16", "compress", "([CI[BII)I"⟩ : MethodName)) hown (mvT hZ (hw _ (List.mem_of_getElem? (i := 24) rfl))) (mvT hZ (hw _ (List.mem_of_getElem? (i := 25) rfl))) (mvT hZ (hw _ (List.mem_of_getElem? (i := 21) rfl))) (mvT hZ (hw _ (List.mem_of_getElem? (i := 26) rfl))) (by decide) (backOf (W := 0) (rmcompress18 l Z a0 hw [] o0_ b1 ko0_ k1 h1 n0 f9 f6 f7 f4 Z1 ge2 ne8) hZ (hw _ (List.mem_of_getElem? (i := 26) rfl)) (hw _ (List.mem_of_getElem? (i := 21) rfl)) (by decide) (by decide)) (g := (mkF m 9 #[.val (.ref o0_), .val (.int (0 : Int32)), .val (.int (7 : Int32)), .val (.ref b1), .unset, .unset] [(.int (7 : Int32)), (.int (0 : Int32)), (.ref b1), (.int (0 : Int32)), (.ref o0_)])) rfl (by rw [hml]; rfl) (argsL := [(.ref o0_), (.int (0 : Int32)), (.ref b1), (.int (0 : Int32)), (.int (7 : Int32))]) (rest := []) (lenOf pd_0 rfl) rfl (by show 2 * 0 + _ ≤ _; exact Nat.le_of_eq rfl) (hb hby d3_9) (fun _ _ => ⟨rfl, e1, (by decide : 1 + 0 ≤ _), (by decide : 7 + 0 ≤ _)⟩)
  dsimp only [Pt.U, Pt.locs, Pt.cells, Pt.slots] at X5 l5 y5 z5 st5 hQ5
  subst l5 y5 z5
  obtain ⟨h5, e5⟩ : ∃ z, T5.heap = z := ⟨_, rfl⟩
  rw [e5] at hQ5
  obtain ⟨rfl, N5q, K5, g5_0, g5_1⟩ := hQ5
  have N10 := Fr.app N0 N5q
  have pre11 : ∀ t, Steps p.tables e below (T5.setTop (mkF m 58 #[.val (.ref o0_), .val (.int (0 : Int32)), .val (.int (7 : Int32)), .val (.ref b1), .val (.int (7 : Int32)), .unset] [(.ref b1)])) t → Steps p.tables e below (s₁.setTop (entryFrame m #[(.ref o0_), (.int (0 : Int32)), (.int (7 : Int32))] 6)) t := by
    intro t kt
    refine pre0 t ?_
    show Steps p.tables e below (s₁.setTop (mkF m 0 #[.val (.ref o0_), .val (.int (0 : Int32)), .val (.int (7 : Int32)), .unset, .unset, .unset] [])) _
    refine XS.iloadN X0.here hx rfl (hb hby d3_0) rfl ?_
    show Steps p.tables e below (s₁.setTop (mkF m 1 #[.val (.ref o0_), .val (.int (0 : Int32)), .val (.int (7 : Int32)), .unset, .unset, .unset] [(.int (7 : Int32))])) _
    refine st1 _ ?_
    show Steps p.tables e below (T1.setTop (mkF m 3 #[.val (.ref o0_), .val (.int (0 : Int32)), .val (.int (7 : Int32)), .unset, .unset, .unset] [(.ref b1)])) _
    refine XS.astoreN X1.here hx rfl (hb hby d3_3) rfl rfl (l' := #[.val (.ref o0_), .val (.int (0 : Int32)), .val (.int (7 : Int32)), .val (.ref b1), .unset, .unset]) rfl ?_
    show Steps p.tables e below (T1.setTop (mkF m 4 #[.val (.ref o0_), .val (.int (0 : Int32)), .val (.int (7 : Int32)), .val (.ref b1), .unset, .unset] [])) _
    refine XS.aloadN X1.here hx rfl (hb hby d3_4) rfl rfl ?_
    show Steps p.tables e below (T1.setTop (mkF m 5 #[.val (.ref o0_), .val (.int (0 : Int32)), .val (.int (7 : Int32)), .val (.ref b1), .unset, .unset] [(.ref o0_)])) _
    refine XS.iloadN X1.here hx rfl (hb hby d3_5) rfl ?_
    show Steps p.tables e below (T1.setTop (mkF m 6 #[.val (.ref o0_), .val (.int (0 : Int32)), .val (.int (7 : Int32)), .val (.ref b1), .unset, .unset] [(.int (0 : Int32)), (.ref o0_)])) _
    refine XS.aloadN X1.here hx rfl (hb hby d3_6) rfl rfl ?_
    show Steps p.tables e below (T1.setTop (mkF m 7 #[.val (.ref o0_), .val (.int (0 : Int32)), .val (.int (7 : Int32)), .val (.ref b1), .unset, .unset] [(.ref b1), (.int (0 : Int32)), (.ref o0_)])) _
    refine XS.iconst X1.here hx rfl (hb hby d3_7) ?_
    show Steps p.tables e below (T1.setTop (mkF m 8 #[.val (.ref o0_), .val (.int (0 : Int32)), .val (.int (7 : Int32)), .val (.ref b1), .unset, .unset] [(.int (0 : Int32)), (.ref b1), (.int (0 : Int32)), (.ref o0_)])) _
    refine XS.iloadN X1.here hx rfl (hb hby d3_8) rfl ?_
    show Steps p.tables e below (T1.setTop (mkF m 9 #[.val (.ref o0_), .val (.int (0 : Int32)), .val (.int (7 : Int32)), .val (.ref b1), .unset, .unset] [(.int (7 : Int32)), (.int (0 : Int32)), (.ref b1), (.int (0 : Int32)), (.ref o0_)])) _
    refine st5 _ ?_
    show Steps p.tables e below (T5.setTop (mkF m 12 #[.val (.ref o0_), .val (.int (0 : Int32)), .val (.int (7 : Int32)), .val (.ref b1), .unset, .unset] [(.int (7 : Int32))])) _
    refine XS.istore X5.here hx rfl (hb hby d3_12) rfl (l' := #[.val (.ref o0_), .val (.int (0 : Int32)), .val (.int (7 : Int32)), .val (.ref b1), .val (.int (7 : Int32)), .unset]) rfl ?_
    show Steps p.tables e below (T5.setTop (mkF m 14 #[.val (.ref o0_), .val (.int (0 : Int32)), .val (.int (7 : Int32)), .val (.ref b1), .val (.int (7 : Int32)), .unset] [])) _
    refine XS.iload X5.here hx rfl (hb hby d3_14) rfl ?_
    show Steps p.tables e below (T5.setTop (mkF m 16 #[.val (.ref o0_), .val (.int (0 : Int32)), .val (.int (7 : Int32)), .val (.ref b1), .val (.int (7 : Int32)), .unset] [(.int (7 : Int32))])) _
    refine XS.iloadN X5.here hx rfl (hb hby d3_16) rfl ?_
    show Steps p.tables e below (T5.setTop (mkF m 17 #[.val (.ref o0_), .val (.int (0 : Int32)), .val (.int (7 : Int32)), .val (.ref b1), .val (.int (7 : Int32)), .unset] [(.int (7 : Int32)), (.int (7 : Int32))])) _
    refine XS.icmpYes X5.here hx rfl (pc0 := 17) (pc' := 57) rfl (hb hby d3_17) rfl (teq (by decide : (7 : Int32) = (7 : Int32))).1 (by decide) (by decide) ?_
    show Steps p.tables e below (T5.setTop (mkF m 57 #[.val (.ref o0_), .val (.int (0 : Int32)), .val (.int (7 : Int32)), .val (.ref b1), .val (.int (7 : Int32)), .unset] [])) _
    refine XS.aloadN X5.here hx rfl (hb hby d3_57) rfl rfl ?_
    exact kt
  have f13 : Keep h0 h1 [] := K0.ext E1
  have f14 : Keep h0 h5 [] := f13.trans K5 (allS (Or.inr sz3) all0)
  obtain ⟨fs, hr, hrun, hended, hW, hsame⟩ := X5.leave (v := some (.ref b1)) (fun h => by rw [Bd.returns] at h; cases h)
  refine ⟨_, _, pre11 _ (retOut X5 hx Bd.returns rfl (Or.inr (Or.inr (Or.inr (Or.inr ⟨rfl, rfl, rfl⟩)))) (hb hby d3_58) hr), hrun, hended, _, _, rfl, ?_, ⟨_, rfl⟩, hW, hsame.mono (by decide) (by decide)⟩
  show Qcompress17 Z o0_ ko0_ h0 n0 _ T5.heap _
  rw [e5]
  exact ⟨k1, b1, rfl, N10, f14, sz3, g5_0, g5_1⟩
theorem efcoderFromArrayLen19 (m : MethodId) (o0_ : Addr) : entryFrame m #[(.ref o0_), (.int (7 : Int32))] 2 = mkF m 0 #[.val (.ref o0_), .val (.int (7 : Int32))] [] := by first | (simp [entryFrame, mkF, argsToLocals, Value.category]; done) | rfl
def QcoderFromArrayLen19 (Z : State) (o0_ : Addr) (ko0_ : ClassId) (h0 : Heap) (n0 : Nat) (v : Option Value) (h : Heap) (L : List Loc) : Prop := v = some (.int (0 : Int32)) ∧ Fr n0 L ∧ h = h0
set_option maxRecDepth 65536 in
set_option maxHeartbeats 40000000 in
theorem rmcoderFromArrayLen19 (l : Launch) (Z : State) (a0 : Array Value) (hw : ∀ d ∈ tables_1, d.before a0 Z = true) (ws : List Jvm.Cond) (o0_ : Addr) (ko0_ : ClassId) (h0 : Heap) (n0 : Nat) (O0 : Old Z n0 h0) (P0 : Arv Z h0 o0_ ko0_ .byte (7 : Int32) [(.int (114 : Int32)), (.int (101 : Int32)), (.int (102 : Int32)), (.int (117 : Int32)), (.int (115 : Int32)), (.int (101 : Int32)), (.int (100 : Int32))] (.int (0 : Int32))) (P1 : Exa Z h0 o0_ "[B") :
    MetFree l (⟨"java/lang/StringUTF16", "coderFromArrayLen", "([BI)B"⟩ : MethodName) (head1 (Jvm.Cond.code (⟨"java/lang/StringUTF16", "coderFromArrayLen", "([BI)B"⟩ : MethodName) jdk_52_method_15_code 2 (some .byte) :: ws) ({ frames := 0, cells := 0, slots := 0, locals := 0 } : Room)) (fun a U => a = #[(.ref o0_), (.int (7 : Int32))] ∧ Z.Warmed39 U.vm ∧ U.heap = h0) (fun _ _ _ _ _ => True) (fun _ U o U' => ∃ v L, o = .returned v ∧ QcoderFromArrayLen19 Z o0_ ko0_ h0 n0 v U'.heap L ∧ FrameEnd U o U' L ({ frames := 0, cells := 0, slots := 0, locals := 0 } : Room).cells ({ frames := 0, cells := 0, slots := 0, locals := 0 } : Room).slots) := by
  refine MetFree.of_bodySF (plainFor_of_name pn_0) hisR ?_
  intro p e s m args below meth c s₁ Bd hml0 hP hK
  obtain ⟨rfl, hZ, hh⟩ := hP
  have hx := Bd.exec
  have hby := Bd.bytes
  have hml : c.maxLocals = 2 := hml0
  have hown : s.vm.findClass "java/lang/StringUTF16" = some m.cls := findClass_of_methodNamed Bd.named
  have hnm := (name_of_methodNamed Bd.named Bd.method).1
  have X0 : Stand p l e ({ frames := 0, cells := 0, slots := 0, locals := 0 } : Room) s m #[(.ref o0_), (.int (7 : Int32))] below meth c s₁ [] 0 0 := Stand.of_body Bd
  have e0 : s₁.heap = h0 := by rw [← hh, Bd.state]; rfl
  have N0 := Fr.nil n0
  have pre0 : ∀ t, Steps p.tables e below (s₁.setTop (mkF m 0 #[.val (.ref o0_), .val (.int (7 : Int32))] [])) t → Steps p.tables e below (s₁.setTop (entryFrame m #[(.ref o0_), (.int (7 : Int32))] 2)) t := fun t k => castTop (efcoderFromArrayLen19 m o0_) k
  have K0 : Keep h0 h0 [] := Keep.refl _ _
  obtain ⟨c1, r1, q1, s1, z1, y1, G1⟩ := id P0
  have pre2 : ∀ t, Steps p.tables e below (s₁.setTop (mkF m 8 #[.val (.ref o0_), .val (.int (7 : Int32))] [(.int (0 : Int32))])) t → Steps p.tables e below (s₁.setTop (entryFrame m #[(.ref o0_), (.int (7 : Int32))] 2)) t := by
    intro t kt
    refine pre0 t ?_
    show Steps p.tables e below (s₁.setTop (mkF m 0 #[.val (.ref o0_), .val (.int (7 : Int32))] [])) _
    refine XS.iloadN X0.here hx rfl (hb hby d5_0) rfl ?_
    show Steps p.tables e below (s₁.setTop (mkF m 1 #[.val (.ref o0_), .val (.int (7 : Int32))] [(.int (7 : Int32))])) _
    refine XS.aloadN X0.here hx rfl (hb hby d5_1) rfl rfl ?_
    show Steps p.tables e below (s₁.setTop (mkF m 2 #[.val (.ref o0_), .val (.int (7 : Int32))] [(.ref o0_), (.int (7 : Int32))])) _
    refine X0.arraylength hx (by rw [e0]; exact r1.1) (State.isArrayOf_alike hZ.alike r1.2.1) (g := (mkF m 2 #[.val (.ref o0_), .val (.int (7 : Int32))] [(.ref o0_), (.int (7 : Int32))])) rfl rfl (hb hby d5_2) _ ?_
    rw [len_of s1 z1]
    show Steps p.tables e below (s₁.setTop (mkF m 3 #[.val (.ref o0_), .val (.int (7 : Int32))] [(.int (7 : Int32)), (.int (7 : Int32))])) _
    refine XS.isub X0.here hx rfl (hb hby d5_3) rfl ?_
    show Steps p.tables e below (s₁.setTop (mkF m 4 #[.val (.ref o0_), .val (.int (7 : Int32))] [(.int (0 : Int32))])) _
    refine XS.bipush X0.here hx rfl (hb hby d5_4) ?_
    show Steps p.tables e below (s₁.setTop (mkF m 6 #[.val (.ref o0_), .val (.int (7 : Int32))] [(.int (31 : Int32)), (.int (0 : Int32))])) _
    refine XS.iushr X0.here hx rfl (hb hby d5_6) rfl ?_
    show Steps p.tables e below (s₁.setTop (mkF m 7 #[.val (.ref o0_), .val (.int (7 : Int32))] [(.int (0 : Int32))])) _
    refine XS.i2b X0.here hx rfl (hb hby d5_7) rfl ?_
    exact kt
  obtain ⟨fs, hr, hrun, hended, hW, hsame⟩ := X0.leave (v := some (.int (0 : Int32))) (fun h => by rw [Bd.returns] at h; cases h)
  refine ⟨_, _, pre2 _ (retN X0 hx (t := .byte) Bd.returns (by simp) (hb hby d5_8) hr), hrun, hended, _, _, rfl, ?_, ⟨_, rfl⟩, hW, hsame.mono (by decide) (by decide)⟩
  show QcoderFromArrayLen19 Z o0_ ko0_ h0 n0 _ s₁.heap _
  rw [e0]
  exact ⟨rfl, N0, rfl⟩
theorem efinit16 (m : MethodId) (o0_ : Addr) (o1_ : Addr) : entryFrame m #[(.ref o0_), (.ref o1_), (.int (0 : Int32)), (.int (7 : Int32)), .null] 6 = mkF m 0 #[.val (.ref o0_), .val (.ref o1_), .val (.int (0 : Int32)), .val (.int (7 : Int32)), .val .null, .unset] [] := by first | (simp [entryFrame, mkF, argsToLocals, Value.category]; done) | rfl
def Qinit16 (Z : State) (o0_ : Addr) (o1_ : Addr) (ko1_ : ClassId) (x0_ : Int32) (h0 : Heap) (n0 : Nat) (v : Option Value) (h : Heap) (L : List Loc) : Prop := ∃ k1_3 : ClassId, ∃ nnb1_3 : Addr, v = none ∧ Fr n0 L ∧ Keep h0 h [o0_] ∧ h0.size ≤ nnb1_3 ∧ Exa Z h o0_ "java/lang/String" ∧ Fld Z h o0_ "java/lang/String" "coder" "B" (.int (0 : Int32)) ∧ Fld Z h o0_ "java/lang/String" "value" "[B" (.ref nnb1_3) ∧ Arv Z h nnb1_3 k1_3 .byte (7 : Int32) [(.int (114 : Int32)), (.int (101 : Int32)), (.int (102 : Int32)), (.int (117 : Int32)), (.int (115 : Int32)), (.int (101 : Int32)), (.int (100 : Int32))] (.int (0 : Int32)) ∧ Exa Z h nnb1_3 "[B"
set_option maxRecDepth 65536 in
set_option maxHeartbeats 40000000 in
theorem rminit16 (l : Launch) (Z : State) (a0 : Array Value) (hw : ∀ d ∈ tables_1, d.before a0 Z = true) (ws : List Jvm.Cond) (o0_ : Addr) (o1_ : Addr) (ko1_ : ClassId) (x0_ : Int32) (h0 : Heap) (n0 : Nat) (O0 : Old Z n0 h0) (P0 : Exa Z h0 o0_ "java/lang/String") (P1 : Fld Z h0 o0_ "java/lang/String" "coder" "B" (.int (0 : Int32))) (P2 : Fld Z h0 o0_ "java/lang/String" "value" "[B" .null) (P3 : Arv Z h0 o1_ ko1_ .char (7 : Int32) [(.int (114 : Int32)), (.int (101 : Int32)), (.int (102 : Int32)), (.int (117 : Int32)), (.int (115 : Int32)), (.int (101 : Int32)), (.int (100 : Int32))] (.int (0 : Int32))) (P4 : Exa Z h0 o1_ "[C") (P5 : ¬ (x0_ = (0 : Int32))) (P6 : Sta Z Z.heap "java/lang/String" "COMPACT_STRINGS" "Z" (.int x0_)) (P7 : n0 ≤ o0_) :
    MetFree l (⟨"java/lang/String", "<init>", "([CIILjava/lang/Void;)V"⟩ : MethodName) (head1 (Jvm.Cond.code (⟨"java/lang/String", "<init>", "([CIILjava/lang/Void;)V"⟩ : MethodName) jdk_42_method_149_code 6 none :: ws) ({ frames := 2, cells := 1, slots := 7, locals := 35 } : Room)) (fun a U => a = #[(.ref o0_), (.ref o1_), (.int (0 : Int32)), (.int (7 : Int32)), .null] ∧ Z.Warmed39 U.vm ∧ U.heap = h0) (fun _ _ _ _ _ => True) (fun _ U o U' => ∃ v L, o = .returned v ∧ Qinit16 Z o0_ o1_ ko1_ x0_ h0 n0 v U'.heap L ∧ FrameEnd U o U' L ({ frames := 2, cells := 1, slots := 7, locals := 35 } : Room).cells ({ frames := 2, cells := 1, slots := 7, locals := 35 } : Room).slots) := by
  refine MetFree.of_bodySF (plainFor_of_name pn_1) hisR ?_
  intro p e s m args below meth c s₁ Bd hml0 hP hK
  obtain ⟨rfl, hZ, hh⟩ := hP
  have hx := Bd.exec
  have hby := Bd.bytes
  have hml : c.maxLocals = 6 := hml0
  have hown : s.vm.findClass "java/lang/String" = some m.cls := findClass_of_methodNamed Bd.named
  have hnm := (name_of_methodNamed Bd.named Bd.method).1
  have X0 : Stand p l e ({ frames := 2, cells := 1, slots := 7, locals := 35 } : Room) s m #[(.ref o0_), (.ref o1_), (.int (0 : Int32)), (.int (7 : Int32)), .null] below meth c s₁ [] 0 0 := Stand.of_body Bd
  have e0 : s₁.heap = h0 := by rw [← hh, Bd.state]; rfl
  have N0 := Fr.nil n0
  have pre0 : ∀ t, Steps p.tables e below (s₁.setTop (mkF m 0 #[.val (.ref o0_), .val (.ref o1_), .val (.int (0 : Int32)), .val (.int (7 : Int32)), .val .null, .unset] [])) t → Steps p.tables e below (s₁.setTop (entryFrame m #[(.ref o0_), (.ref o1_), (.int (0 : Int32)), (.int (7 : Int32)), .null] 6)) t := fun t k => castTop (efinit16 m o0_ o1_) k
  have K0 : Keep h0 h0 [o0_] := Keep.refl _ _
  obtain ⟨T1, X1, e1, st1⟩ := initO X0 hx hZ hown (hw _ (List.mem_of_getElem? (i := 15) rfl)) (hw _ (List.mem_of_getElem? (i := 16) rfl)) (hw _ (List.mem_of_getElem? (i := 17) rfl)) e0 (g := (mkF m 1 #[.val (.ref o0_), .val (.ref o1_), .val (.int (0 : Int32)), .val (.int (7 : Int32)), .val .null, .unset] [(.ref o0_)])) rfl (by rw [hml]; rfl) rfl (hb hby d2_1) (by decide) (W := 0) (by show 2 * 0 + _ ≤ _; exact Nat.le_of_eq rfl) (by decide)
  obtain ⟨T2, X2, e2, st2⟩ := getS2 X1 hx hZ hown (host := "") (Or.inl (hw _ (List.mem_of_getElem? (i := 18) rfl))) Via.refl e1 (P6.ext O0.2) (g := (mkF m 27 #[.val (.ref o0_), .val (.ref o1_), .val (.int (0 : Int32)), .val (.int (7 : Int32)), .val .null, .unset] [])) rfl (hb hby d2_27)
  obtain ⟨_, _, ⟨T3, L3, k3, n3⟩, -, X3, ⟨Lc3, hQ3, l3, y3, z3⟩, st3⟩ := Jvm.LawKit.callS X2 hx (y := (⟨"java/lang/StringUTF16", "compress", "([CII)[B"⟩ : MethodName)) hown (mvT hZ (hw _ (List.mem_of_getElem? (i := 19) rfl))) (mvT hZ (hw _ (List.mem_of_getElem? (i := 20) rfl))) (mvT hZ (hw _ (List.mem_of_getElem? (i := 21) rfl))) (mvT hZ (hw _ (List.mem_of_getElem? (i := 22) rfl))) (by decide) (backOf (W := 0) (rmcompress17 l Z a0 hw [] o1_ ko1_ h0 n0 O0 P3 P4) hZ (hw _ (List.mem_of_getElem? (i := 22) rfl)) (hw _ (List.mem_of_getElem? (i := 21) rfl)) (by decide) (by decide)) (g := (mkF m 36 #[.val (.ref o0_), .val (.ref o1_), .val (.int (0 : Int32)), .val (.int (7 : Int32)), .val .null, .unset] [(.int (7 : Int32)), (.int (0 : Int32)), (.ref o1_)])) rfl (by rw [hml]; rfl) (argsL := [(.ref o1_), (.int (0 : Int32)), (.int (7 : Int32))]) (rest := []) (lenOf pd_1 rfl) rfl (by show 2 * 0 + _ ≤ _; exact Nat.le_of_eq rfl) (hb hby d2_36) (fun _ _ => ⟨rfl, e2, (by decide : 0 + 1 ≤ _), (by decide : 0 + 7 ≤ _)⟩)
  dsimp only [Pt.U, Pt.locs, Pt.cells, Pt.slots] at X3 l3 y3 z3 st3 hQ3
  subst l3 y3 z3
  obtain ⟨h3, e3⟩ : ∃ z, T3.heap = z := ⟨_, rfl⟩
  rw [e3] at hQ3
  obtain ⟨k1_3, nb1_3, rfl, N3q, K3, sznb1_3, g3_0, g3_1⟩ := hQ3
  have N4 := Fr.app N0 N3q
  have ge5 : n0 ≤ nb1_3 := Nat.le_trans (Nat.le_trans (Nat.le_of_eq O0.1.symm) O0.2.1) sznb1_3
  have sz6 : h0.size ≤ nb1_3 := Nat.le_trans K0.1 sznb1_3
  have f8 : Old Z n0 h3 := O0.keep K3 all0
  obtain ⟨_, _, ⟨T7, L7, k7, n7⟩, -, X7, ⟨Lc7, hQ7, l7, y7, z7⟩, st7⟩ := Jvm.LawKit.callS X3 hx (y := (⟨"java/lang/StringUTF16", "coderFromArrayLen", "([BI)B"⟩ : MethodName)) hown (mvT hZ (hw _ (List.mem_of_getElem? (i := 27) rfl))) (mvT hZ (hw _ (List.mem_of_getElem? (i := 28) rfl))) (mvT hZ (hw _ (List.mem_of_getElem? (i := 21) rfl))) (mvT hZ (hw _ (List.mem_of_getElem? (i := 29) rfl))) (by decide) (backOf (W := 1) (rmcoderFromArrayLen19 l Z a0 hw [] nb1_3 k1_3 h3 n0 f8 g3_0 g3_1) hZ (hw _ (List.mem_of_getElem? (i := 29) rfl)) (hw _ (List.mem_of_getElem? (i := 21) rfl)) (by decide) (by decide)) (g := (mkF m 45 #[.val (.ref o0_), .val (.ref o1_), .val (.int (0 : Int32)), .val (.int (7 : Int32)), .val .null, .val (.ref nb1_3)] [(.int (7 : Int32)), (.ref nb1_3), (.ref o0_)])) rfl (by rw [hml]; rfl) (argsL := [(.ref nb1_3), (.int (7 : Int32))]) (rest := [(.ref o0_)]) (lenOf pd_2 rfl) rfl (by show 2 * 0 + _ ≤ _; exact Nat.le_of_eq rfl) (hb hby d2_45) (fun _ _ => ⟨rfl, e3, (by decide : 1 + 0 ≤ _), (by decide : 7 + 0 ≤ _)⟩)
  dsimp only [Pt.U, Pt.locs, Pt.cells, Pt.slots] at X7 l7 y7 z7 st7 hQ7
  subst l7 y7 z7
  obtain ⟨h7, e7⟩ : ∃ z, T7.heap = z := ⟨_, rfl⟩
  rw [e7] at hQ7
  obtain ⟨rfl, N7q, hh7⟩ := hQ7
  have N9 := Fr.app N4 N7q
  have e7' : T7.heap = h3 := e7.trans hh7
  have f10 : Fld Z h3 o0_ "java/lang/String" "coder" "B" (.int (0 : Int32)) := P1.keep K3 nin0
  have f11 : Exa Z h3 o0_ "java/lang/String" := P0.keep K3
  obtain ⟨T12, h12, X12, e12, W12, st12⟩ := putF X7 hx hZ hown (host := "") (Or.inl (hw _ (List.mem_of_getElem? (i := 30) rfl))) Via.refl e7' f10 f11 (Or.inr ⟨(hw _ (List.mem_of_getElem? (i := 31) rfl)), rfl, hnm⟩) (hw _ (List.mem_of_getElem? (i := 6) rfl)) (ty := .byte) (by decide) rfl rfl (g := (mkF m 48 #[.val (.ref o0_), .val (.ref o1_), .val (.int (0 : Int32)), .val (.int (7 : Int32)), .val .null, .val (.ref nb1_3)] [(.int (0 : Int32)), (.ref o0_)])) rfl rfl (hb hby d2_48)
  have N13 := Fr.snoc X12 N9 P7
  have f14 : Fld Z h12 o0_ "java/lang/String" "coder" "B" (.int (0 : Int32)) := f10.same W12
  have f15 : Fld Z h3 o0_ "java/lang/String" "value" "[B" .null := P2.keep K3 nin0
  have f16 : Fld Z h12 o0_ "java/lang/String" "value" "[B" .null := f15.other W12 (Or.inr (slot_ne (Or.inr (hw _ (List.mem_of_getElem? (i := 33) rfl))) (Or.inr (hw _ (List.mem_of_getElem? (i := 31) rfl))) (by decide) (t := (.array .byte)) (t' := .byte) (by decide) (by decide)))
  have f17 : Exa Z h12 o0_ "java/lang/String" := f11.wr W12
  obtain ⟨T18, h18, X18, e18, W18, st18⟩ := putF X12 hx hZ hown (host := "") (Or.inl (hw _ (List.mem_of_getElem? (i := 32) rfl))) Via.refl e12 f16 f17 (Or.inr ⟨(hw _ (List.mem_of_getElem? (i := 33) rfl)), rfl, hnm⟩) (hw _ (List.mem_of_getElem? (i := 6) rfl)) (ty := (.array .byte)) (by decide) rfl rfl (g := (mkF m 54 #[.val (.ref o0_), .val (.ref o1_), .val (.int (0 : Int32)), .val (.int (7 : Int32)), .val .null, .val (.ref nb1_3)] [(.ref nb1_3), (.ref o0_)])) rfl rfl (hb hby d2_54)
  have N19 := Fr.snoc X18 N13 P7
  have f20 : Fld Z h18 o0_ "java/lang/String" "value" "[B" (.ref nb1_3) := f16.same W18
  have pre21 : ∀ t, Steps p.tables e below (T18.setTop (mkF m 57 #[.val (.ref o0_), .val (.ref o1_), .val (.int (0 : Int32)), .val (.int (7 : Int32)), .val .null, .val (.ref nb1_3)] [])) t → Steps p.tables e below (s₁.setTop (entryFrame m #[(.ref o0_), (.ref o1_), (.int (0 : Int32)), (.int (7 : Int32)), .null] 6)) t := by
    intro t kt
    refine pre0 t ?_
    show Steps p.tables e below (s₁.setTop (mkF m 0 #[.val (.ref o0_), .val (.ref o1_), .val (.int (0 : Int32)), .val (.int (7 : Int32)), .val .null, .unset] [])) _
    refine XS.aloadN X0.here hx rfl (hb hby d2_0) rfl rfl ?_
    show Steps p.tables e below (s₁.setTop (mkF m 1 #[.val (.ref o0_), .val (.ref o1_), .val (.int (0 : Int32)), .val (.int (7 : Int32)), .val .null, .unset] [(.ref o0_)])) _
    refine st1 _ ?_
    show Steps p.tables e below (T1.setTop (mkF m 4 #[.val (.ref o0_), .val (.ref o1_), .val (.int (0 : Int32)), .val (.int (7 : Int32)), .val .null, .unset] [])) _
    refine XS.iloadN X1.here hx rfl (hb hby d2_4) rfl ?_
    show Steps p.tables e below (T1.setTop (mkF m 5 #[.val (.ref o0_), .val (.ref o1_), .val (.int (0 : Int32)), .val (.int (7 : Int32)), .val .null, .unset] [(.int (7 : Int32))])) _
    refine XS.ifYes X1.here hx rfl (pc0 := 5) (pc' := 27) rfl (hb hby d2_5) rfl ((if0 _ _).trans (feq (by decide : ¬ ((7 : Int32) = (0 : Int32)))).2) (by decide) (by decide) ?_
    show Steps p.tables e below (T1.setTop (mkF m 27 #[.val (.ref o0_), .val (.ref o1_), .val (.int (0 : Int32)), .val (.int (7 : Int32)), .val .null, .unset] [])) _
    refine st2 _ ?_
    show Steps p.tables e below (T2.setTop (mkF m 30 #[.val (.ref o0_), .val (.ref o1_), .val (.int (0 : Int32)), .val (.int (7 : Int32)), .val .null, .unset] [(.int x0_)])) _
    refine XS.ifNo X2.here hx rfl (hb hby d2_30) rfl ((if0 _ _).trans (feq P5).1) ?_
    show Steps p.tables e below (T2.setTop (mkF m 33 #[.val (.ref o0_), .val (.ref o1_), .val (.int (0 : Int32)), .val (.int (7 : Int32)), .val .null, .unset] [])) _
    refine XS.aloadN X2.here hx rfl (hb hby d2_33) rfl rfl ?_
    show Steps p.tables e below (T2.setTop (mkF m 34 #[.val (.ref o0_), .val (.ref o1_), .val (.int (0 : Int32)), .val (.int (7 : Int32)), .val .null, .unset] [(.ref o1_)])) _
    refine XS.iloadN X2.here hx rfl (hb hby d2_34) rfl ?_
    show Steps p.tables e below (T2.setTop (mkF m 35 #[.val (.ref o0_), .val (.ref o1_), .val (.int (0 : Int32)), .val (.int (7 : Int32)), .val .null, .unset] [(.int (0 : Int32)), (.ref o1_)])) _
    refine XS.iloadN X2.here hx rfl (hb hby d2_35) rfl ?_
    show Steps p.tables e below (T2.setTop (mkF m 36 #[.val (.ref o0_), .val (.ref o1_), .val (.int (0 : Int32)), .val (.int (7 : Int32)), .val .null, .unset] [(.int (7 : Int32)), (.int (0 : Int32)), (.ref o1_)])) _
    refine st3 _ ?_
    show Steps p.tables e below (T3.setTop (mkF m 39 #[.val (.ref o0_), .val (.ref o1_), .val (.int (0 : Int32)), .val (.int (7 : Int32)), .val .null, .unset] [(.ref nb1_3)])) _
    refine XS.astore X3.here hx rfl (hb hby d2_39) rfl rfl (l' := #[.val (.ref o0_), .val (.ref o1_), .val (.int (0 : Int32)), .val (.int (7 : Int32)), .val .null, .val (.ref nb1_3)]) rfl ?_
    show Steps p.tables e below (T3.setTop (mkF m 41 #[.val (.ref o0_), .val (.ref o1_), .val (.int (0 : Int32)), .val (.int (7 : Int32)), .val .null, .val (.ref nb1_3)] [])) _
    refine XS.aloadN X3.here hx rfl (hb hby d2_41) rfl rfl ?_
    show Steps p.tables e below (T3.setTop (mkF m 42 #[.val (.ref o0_), .val (.ref o1_), .val (.int (0 : Int32)), .val (.int (7 : Int32)), .val .null, .val (.ref nb1_3)] [(.ref o0_)])) _
    refine XS.aload X3.here hx rfl (hb hby d2_42) rfl rfl ?_
    show Steps p.tables e below (T3.setTop (mkF m 44 #[.val (.ref o0_), .val (.ref o1_), .val (.int (0 : Int32)), .val (.int (7 : Int32)), .val .null, .val (.ref nb1_3)] [(.ref nb1_3), (.ref o0_)])) _
    refine XS.iloadN X3.here hx rfl (hb hby d2_44) rfl ?_
    show Steps p.tables e below (T3.setTop (mkF m 45 #[.val (.ref o0_), .val (.ref o1_), .val (.int (0 : Int32)), .val (.int (7 : Int32)), .val .null, .val (.ref nb1_3)] [(.int (7 : Int32)), (.ref nb1_3), (.ref o0_)])) _
    refine st7 _ ?_
    show Steps p.tables e below (T7.setTop (mkF m 48 #[.val (.ref o0_), .val (.ref o1_), .val (.int (0 : Int32)), .val (.int (7 : Int32)), .val .null, .val (.ref nb1_3)] [(.int (0 : Int32)), (.ref o0_)])) _
    refine st12 _ ?_
    show Steps p.tables e below (T12.setTop (mkF m 51 #[.val (.ref o0_), .val (.ref o1_), .val (.int (0 : Int32)), .val (.int (7 : Int32)), .val .null, .val (.ref nb1_3)] [])) _
    refine XS.aloadN X12.here hx rfl (hb hby d2_51) rfl rfl ?_
    show Steps p.tables e below (T12.setTop (mkF m 52 #[.val (.ref o0_), .val (.ref o1_), .val (.int (0 : Int32)), .val (.int (7 : Int32)), .val .null, .val (.ref nb1_3)] [(.ref o0_)])) _
    refine XS.aload X12.here hx rfl (hb hby d2_52) rfl rfl ?_
    show Steps p.tables e below (T12.setTop (mkF m 54 #[.val (.ref o0_), .val (.ref o1_), .val (.int (0 : Int32)), .val (.int (7 : Int32)), .val .null, .val (.ref nb1_3)] [(.ref nb1_3), (.ref o0_)])) _
    refine st18 _ ?_
    exact kt
  have f23 : Keep h0 h3 [o0_] := K0.trans K3 all0
  have f24 : Keep h0 h12 [o0_] := f23.wr W12 (Or.inl (List.mem_of_getElem? (i := 0) rfl))
  have f25 : Keep h0 h18 [o0_] := f24.wr W18 (Or.inl (List.mem_of_getElem? (i := 0) rfl))
  have f26 : Exa Z h18 o0_ "java/lang/String" := f17.wr W18
  have f27 : Fld Z h18 o0_ "java/lang/String" "coder" "B" (.int (0 : Int32)) := f14.other W18 (Or.inr (slot_ne (Or.inr (hw _ (List.mem_of_getElem? (i := 31) rfl))) (Or.inr (hw _ (List.mem_of_getElem? (i := 33) rfl))) (by decide) (t := .byte) (t' := (.array .byte)) (by decide) (by decide)))
  have ne29 : o0_ ≠ nb1_3 := Nat.ne_of_lt (Nat.lt_of_lt_of_le P0.lt sznb1_3)
  have f28 : Arv Z h12 nb1_3 k1_3 .byte (7 : Int32) [(.int (114 : Int32)), (.int (101 : Int32)), (.int (102 : Int32)), (.int (117 : Int32)), (.int (115 : Int32)), (.int (101 : Int32)), (.int (100 : Int32))] (.int (0 : Int32)) := g3_0.other W12 (Ne.symm ne29)
  have f30 : Arv Z h18 nb1_3 k1_3 .byte (7 : Int32) [(.int (114 : Int32)), (.int (101 : Int32)), (.int (102 : Int32)), (.int (117 : Int32)), (.int (115 : Int32)), (.int (101 : Int32)), (.int (100 : Int32))] (.int (0 : Int32)) := f28.other W18 (Ne.symm ne29)
  have f31 : Exa Z h12 nb1_3 "[B" := g3_1.wr W12
  have f32 : Exa Z h18 nb1_3 "[B" := f31.wr W18
  obtain ⟨fs, hr, hrun, hended, hW, hsame⟩ := X18.leave (v := none) (fun _ => rfl)
  refine ⟨_, _, pre21 _ (X18.returnOut hx Bd.returns (hb hby d2_57) hr), hrun, hended, _, _, rfl, ?_, ⟨_, rfl⟩, hW, hsame.mono (by decide) (by decide)⟩
  show Qinit16 Z o0_ o1_ ko1_ x0_ h0 n0 _ T18.heap _
  rw [e18]
  exact ⟨k1_3, nb1_3, rfl, N19, f25, sz6, f26, f27, f20, f30, f32⟩
theorem efinit14 (m : MethodId) (o0_ : Addr) (o1_ : Addr) : entryFrame m #[(.ref o0_), (.ref o1_)] 2 = mkF m 0 #[.val (.ref o0_), .val (.ref o1_)] [] := by first | (simp [entryFrame, mkF, argsToLocals, Value.category]; done) | rfl
def Qinit14 (Z : State) (o0_ : Addr) (o1_ : Addr) (ko1_ : ClassId) (x0_ : Int32) (h0 : Heap) (n0 : Nat) (v : Option Value) (h : Heap) (L : List Loc) : Prop := ∃ k1_3_2 : ClassId, ∃ nnnb1_3_2 : Addr, v = none ∧ Fr n0 L ∧ Keep h0 h [o0_] ∧ h0.size ≤ nnnb1_3_2 ∧ Exa Z h o0_ "java/lang/String" ∧ Fld Z h o0_ "java/lang/String" "coder" "B" (.int (0 : Int32)) ∧ Fld Z h o0_ "java/lang/String" "value" "[B" (.ref nnnb1_3_2) ∧ Arv Z h nnnb1_3_2 k1_3_2 .byte (7 : Int32) [(.int (114 : Int32)), (.int (101 : Int32)), (.int (102 : Int32)), (.int (117 : Int32)), (.int (115 : Int32)), (.int (101 : Int32)), (.int (100 : Int32))] (.int (0 : Int32)) ∧ Exa Z h nnnb1_3_2 "[B"
set_option maxRecDepth 65536 in
set_option maxHeartbeats 40000000 in
theorem rminit14 (l : Launch) (Z : State) (a0 : Array Value) (hw : ∀ d ∈ tables_1, d.before a0 Z = true) (ws : List Jvm.Cond) (o0_ : Addr) (o1_ : Addr) (ko1_ : ClassId) (x0_ : Int32) (h0 : Heap) (n0 : Nat) (O0 : Old Z n0 h0) (P0 : Exa Z h0 o0_ "java/lang/String") (P1 : Fld Z h0 o0_ "java/lang/String" "coder" "B" (.int (0 : Int32))) (P2 : Fld Z h0 o0_ "java/lang/String" "value" "[B" .null) (P3 : Arv Z h0 o1_ ko1_ .char (7 : Int32) [(.int (114 : Int32)), (.int (101 : Int32)), (.int (102 : Int32)), (.int (117 : Int32)), (.int (115 : Int32)), (.int (101 : Int32)), (.int (100 : Int32))] (.int (0 : Int32))) (P4 : Exa Z h0 o1_ "[C") (P5 : ¬ (x0_ = (0 : Int32))) (P6 : Sta Z Z.heap "java/lang/String" "COMPACT_STRINGS" "Z" (.int x0_)) (P7 : n0 ≤ o0_) :
    MetFree l (⟨"java/lang/String", "<init>", "([C)V"⟩ : MethodName) (head1 (Jvm.Cond.code (⟨"java/lang/String", "<init>", "([C)V"⟩ : MethodName) jdk_42_method_3_code 2 none :: ws) ({ frames := 3, cells := 1, slots := 7, locals := 52 } : Room)) (fun a U => a = #[(.ref o0_), (.ref o1_)] ∧ Z.Warmed39 U.vm ∧ U.heap = h0) (fun _ _ _ _ _ => True) (fun _ U o U' => ∃ v L, o = .returned v ∧ Qinit14 Z o0_ o1_ ko1_ x0_ h0 n0 v U'.heap L ∧ FrameEnd U o U' L ({ frames := 3, cells := 1, slots := 7, locals := 52 } : Room).cells ({ frames := 3, cells := 1, slots := 7, locals := 52 } : Room).slots) := by
  refine MetFree.of_bodySF (plainFor_of_name pn_1) hisR ?_
  intro p e s m args below meth c s₁ Bd hml0 hP hK
  obtain ⟨rfl, hZ, hh⟩ := hP
  have hx := Bd.exec
  have hby := Bd.bytes
  have hml : c.maxLocals = 2 := hml0
  have hown : s.vm.findClass "java/lang/String" = some m.cls := findClass_of_methodNamed Bd.named
  have hnm := (name_of_methodNamed Bd.named Bd.method).1
  have X0 : Stand p l e ({ frames := 3, cells := 1, slots := 7, locals := 52 } : Room) s m #[(.ref o0_), (.ref o1_)] below meth c s₁ [] 0 0 := Stand.of_body Bd
  have e0 : s₁.heap = h0 := by rw [← hh, Bd.state]; rfl
  have N0 := Fr.nil n0
  have pre0 : ∀ t, Steps p.tables e below (s₁.setTop (mkF m 0 #[.val (.ref o0_), .val (.ref o1_)] [])) t → Steps p.tables e below (s₁.setTop (entryFrame m #[(.ref o0_), (.ref o1_)] 2)) t := fun t k => castTop (efinit14 m o0_ o1_) k
  have K0 : Keep h0 h0 [o0_] := Keep.refl _ _
  obtain ⟨c1, r1, q1, s1, z1, y1, G1⟩ := id P3
  obtain ⟨_, _, ⟨T2, L2, k2, n2⟩, -, X2, ⟨Lc2, hQ2, l2, y2, z2⟩, st2⟩ := X0.specialBack hx (y := (⟨"java/lang/String", "<init>", "([CIILjava/lang/Void;)V"⟩ : MethodName)) rfl hown (mvT hZ (hw _ (List.mem_of_getElem? (i := 11) rfl))) (mvT hZ (hw _ (List.mem_of_getElem? (i := 12) rfl))) (mvT hZ (hw _ (List.mem_of_getElem? (i := 14) rfl))) (by decide) (backOf (W := 0) (rminit16 l Z a0 hw [] o0_ o1_ ko1_ x0_ h0 n0 O0 P0 P1 P2 P3 P4 P5 P6 P7) hZ (hw _ (List.mem_of_getElem? (i := 14) rfl)) (hw _ (List.mem_of_getElem? (i := 7) rfl)) (by decide) (by decide)) (g := (mkF m 6 #[.val (.ref o0_), .val (.ref o1_)] [.null, (.int (7 : Int32)), (.int (0 : Int32)), (.ref o1_), (.ref o0_)])) rfl (by rw [hml]; rfl) (Steps.refl _) (a := o0_) (argsL := [(.ref o1_), (.int (0 : Int32)), (.int (7 : Int32)), .null]) (rest := []) (lenOf pd_3 rfl) rfl (by show 2 * 0 + _ ≤ _; exact Nat.le_of_eq rfl) (hb hby d1_6) (fun _ _ => ⟨rfl, e0, (by decide : 0 + 1 ≤ _), (by decide : 0 + 7 ≤ _)⟩)
  dsimp only [Pt.U, Pt.locs, Pt.cells, Pt.slots] at X2 l2 y2 z2 st2 hQ2
  subst l2 y2 z2
  obtain ⟨h2, e2⟩ : ∃ z, T2.heap = z := ⟨_, rfl⟩
  rw [e2] at hQ2
  obtain ⟨k1_3_2, nnb1_3_2, rfl, N2q, K2, sznnb1_3_2, g2_0, g2_1, g2_2, g2_3, g2_4⟩ := hQ2
  have N3 := Fr.app N0 N2q
  have ge4 : n0 ≤ nnb1_3_2 := Nat.le_trans (Nat.le_trans (Nat.le_of_eq O0.1.symm) O0.2.1) sznnb1_3_2
  have sz5 : h0.size ≤ nnb1_3_2 := Nat.le_trans K0.1 sznnb1_3_2
  have pre6 : ∀ t, Steps p.tables e below (T2.setTop (mkF m 9 #[.val (.ref o0_), .val (.ref o1_)] [])) t → Steps p.tables e below (s₁.setTop (entryFrame m #[(.ref o0_), (.ref o1_)] 2)) t := by
    intro t kt
    refine pre0 t ?_
    show Steps p.tables e below (s₁.setTop (mkF m 0 #[.val (.ref o0_), .val (.ref o1_)] [])) _
    refine XS.aloadN X0.here hx rfl (hb hby d1_0) rfl rfl ?_
    show Steps p.tables e below (s₁.setTop (mkF m 1 #[.val (.ref o0_), .val (.ref o1_)] [(.ref o0_)])) _
    refine XS.aloadN X0.here hx rfl (hb hby d1_1) rfl rfl ?_
    show Steps p.tables e below (s₁.setTop (mkF m 2 #[.val (.ref o0_), .val (.ref o1_)] [(.ref o1_), (.ref o0_)])) _
    refine XS.iconst X0.here hx rfl (hb hby d1_2) ?_
    show Steps p.tables e below (s₁.setTop (mkF m 3 #[.val (.ref o0_), .val (.ref o1_)] [(.int (0 : Int32)), (.ref o1_), (.ref o0_)])) _
    refine XS.aloadN X0.here hx rfl (hb hby d1_3) rfl rfl ?_
    show Steps p.tables e below (s₁.setTop (mkF m 4 #[.val (.ref o0_), .val (.ref o1_)] [(.ref o1_), (.int (0 : Int32)), (.ref o1_), (.ref o0_)])) _
    refine X0.arraylength hx (by rw [e0]; exact r1.1) (State.isArrayOf_alike hZ.alike r1.2.1) (g := (mkF m 4 #[.val (.ref o0_), .val (.ref o1_)] [(.ref o1_), (.int (0 : Int32)), (.ref o1_), (.ref o0_)])) rfl rfl (hb hby d1_4) _ ?_
    rw [len_of s1 z1]
    show Steps p.tables e below (s₁.setTop (mkF m 5 #[.val (.ref o0_), .val (.ref o1_)] [(.int (7 : Int32)), (.int (0 : Int32)), (.ref o1_), (.ref o0_)])) _
    refine XS.aconstNull X0.here hx rfl (hb hby d1_5) ?_
    show Steps p.tables e below (s₁.setTop (mkF m 6 #[.val (.ref o0_), .val (.ref o1_)] [.null, (.int (7 : Int32)), (.int (0 : Int32)), (.ref o1_), (.ref o0_)])) _
    refine st2.trans ?_
    exact kt
  have f8 : Keep h0 h2 [o0_] := K0.trans K2 (allS (Or.inl (List.mem_of_getElem? (i := 0) rfl)) all0)
  obtain ⟨fs, hr, hrun, hended, hW, hsame⟩ := X2.leave (v := none) (fun _ => rfl)
  refine ⟨_, _, pre6 _ (X2.returnOut hx Bd.returns (hb hby d1_9) hr), hrun, hended, _, _, rfl, ?_, ⟨_, rfl⟩, hW, hsame.mono (by decide) (by decide)⟩
  show Qinit14 Z o0_ o1_ ko1_ x0_ h0 n0 _ T2.heap _
  rw [e2]
  exact ⟨k1_3_2, nnb1_3_2, rfl, N3, f8, sz5, g2_0, g2_1, g2_2, g2_3, g2_4⟩
theorem d9_24 : decode jdk_43_method_13_code 24 = .ok (.iconst 0, 1) := by decide +kernel
theorem d9_25 : decode jdk_43_method_13_code 25 = .ok (.ireturn, 1) := by decide +kernel
theorem efequals24 (m : MethodId) (o0_ : Addr) (o1_ : Addr) : entryFrame m #[(.ref o0_), (.ref o1_)] 3 = mkF m 0 #[.val (.ref o0_), .val (.ref o1_), .unset] [] := by first | (simp [entryFrame, mkF, argsToLocals, Value.category]; done) | rfl
def Qequals24 (Z : State) (o0_ : Addr) (o1_ : Addr) (ko0_ : ClassId) (ko1_ : ClassId) (h0 : Heap) (n0 : Nat) (v : Option Value) (h : Heap) (L : List Loc) : Prop := v = some (.int (0 : Int32)) ∧ Fr n0 L ∧ h = h0
set_option maxRecDepth 65536 in
set_option maxHeartbeats 40000000 in
theorem rmequals24 (l : Launch) (Z : State) (a0 : Array Value) (hw : ∀ d ∈ tables_1, d.before a0 Z = true) (ws : List Jvm.Cond) (o0_ : Addr) (o1_ : Addr) (ko0_ : ClassId) (ko1_ : ClassId) (h0 : Heap) (n0 : Nat) (O0 : Old Z n0 h0) (P0 : Arv Z Z.heap o0_ ko0_ .byte (7 : Int32) [(.int (103 : Int32)), (.int (114 : Int32)), (.int (97 : Int32)), (.int (110 : Int32)), (.int (116 : Int32)), (.int (101 : Int32)), (.int (100 : Int32))] (.int (0 : Int32))) (P1 : Arv Z h0 o1_ ko1_ .byte (7 : Int32) [(.int (114 : Int32)), (.int (101 : Int32)), (.int (102 : Int32)), (.int (117 : Int32)), (.int (115 : Int32)), (.int (101 : Int32)), (.int (100 : Int32))] (.int (0 : Int32))) (P2 : Exa Z h0 o1_ "[B") :
    MetFree l (⟨"java/lang/StringLatin1", "equals", "([B[B)Z"⟩ : MethodName) (head1 (Jvm.Cond.code (⟨"java/lang/StringLatin1", "equals", "([B[B)Z"⟩ : MethodName) jdk_43_method_13_code 3 (some .boolean) :: ws) ({ frames := 0, cells := 0, slots := 0, locals := 0 } : Room)) (fun a U => a = #[(.ref o0_), (.ref o1_)] ∧ Z.Warmed39 U.vm ∧ U.heap = h0) (fun _ _ _ _ _ => True) (fun _ U o U' => ∃ v L, o = .returned v ∧ Qequals24 Z o0_ o1_ ko0_ ko1_ h0 n0 v U'.heap L ∧ FrameEnd U o U' L ({ frames := 0, cells := 0, slots := 0, locals := 0 } : Room).cells ({ frames := 0, cells := 0, slots := 0, locals := 0 } : Room).slots) := by
  refine MetFree.of_bodySF (plainFor_of_name pn_3) hisR ?_
  intro p e s m args below meth c s₁ Bd hml0 hP hK
  obtain ⟨rfl, hZ, hh⟩ := hP
  have hx := Bd.exec
  have hby := Bd.bytes
  have hml : c.maxLocals = 3 := hml0
  have hown : s.vm.findClass "java/lang/StringLatin1" = some m.cls := findClass_of_methodNamed Bd.named
  have hnm := (name_of_methodNamed Bd.named Bd.method).1
  have X0 : Stand p l e ({ frames := 0, cells := 0, slots := 0, locals := 0 } : Room) s m #[(.ref o0_), (.ref o1_)] below meth c s₁ [] 0 0 := Stand.of_body Bd
  have e0 : s₁.heap = h0 := by rw [← hh, Bd.state]; rfl
  have N0 := Fr.nil n0
  have pre0 : ∀ t, Steps p.tables e below (s₁.setTop (mkF m 0 #[.val (.ref o0_), .val (.ref o1_), .unset] [])) t → Steps p.tables e below (s₁.setTop (entryFrame m #[(.ref o0_), (.ref o1_)] 3)) t := fun t k => castTop (efequals24 m o0_ o1_) k
  have K0 : Keep h0 h0 [] := Keep.refl _ _
  have f2 : Arv Z h0 o0_ ko0_ .byte (7 : Int32) [(.int (103 : Int32)), (.int (114 : Int32)), (.int (97 : Int32)), (.int (110 : Int32)), (.int (116 : Int32)), (.int (101 : Int32)), (.int (100 : Int32))] (.int (0 : Int32)) := P0.ext O0.2
  obtain ⟨c1, r1, q1, s1, z1, y1, G1⟩ := id f2
  obtain ⟨c3, r3, q3, s3, z3, y3, G3⟩ := id P1
  have f5 : Arv Z h0 o0_ ko0_ .byte (7 : Int32) [(.int (103 : Int32)), (.int (114 : Int32)), (.int (97 : Int32)), (.int (110 : Int32)), (.int (116 : Int32)), (.int (101 : Int32)), (.int (100 : Int32))] (.int (0 : Int32)) := P0.ext O0.2
  obtain ⟨c4, r4, q4, s4, z4, y4, G4⟩ := id f5
  have f6 : Arv Z h0 o0_ ko0_ .byte (7 : Int32) [(.int (103 : Int32)), (.int (114 : Int32)), (.int (97 : Int32)), (.int (110 : Int32)), (.int (116 : Int32)), (.int (101 : Int32)), (.int (100 : Int32))] (.int (0 : Int32)) := P0.ext O0.2
  obtain ⟨c7, r7, q7, s7, z7, y7, G7⟩ := id f6
  have hin7 : ¬ ((0 : Int32) < 0 ∨ c7.slots.size ≤ ((0 : Int32)).toNatClampNeg) := inb_of s7 ⟨by decide, by decide⟩
  have hat7 : c7.slots[((0 : Int32)).toNatClampNeg]? = some (.int (103 : Int32)) := Has.at y7 hin7 rfl
  obtain ⟨c8, r8, q8, s8, z8, y8, G8⟩ := id P1
  have hin8 : ¬ ((0 : Int32) < 0 ∨ c8.slots.size ≤ ((0 : Int32)).toNatClampNeg) := inb_of s8 ⟨by decide, by decide⟩
  have hat8 : c8.slots[((0 : Int32)).toNatClampNeg]? = some (.int (114 : Int32)) := Has.at y8 hin8 rfl
  have pre9 : ∀ t, Steps p.tables e below (s₁.setTop (mkF m 25 #[.val (.ref o0_), .val (.ref o1_), .val (.int (0 : Int32))] [(.int (0 : Int32))])) t → Steps p.tables e below (s₁.setTop (entryFrame m #[(.ref o0_), (.ref o1_)] 3)) t := by
    intro t kt
    refine pre0 t ?_
    show Steps p.tables e below (s₁.setTop (mkF m 0 #[.val (.ref o0_), .val (.ref o1_), .unset] [])) _
    refine XS.aloadN X0.here hx rfl (hb hby d9_0) rfl rfl ?_
    show Steps p.tables e below (s₁.setTop (mkF m 1 #[.val (.ref o0_), .val (.ref o1_), .unset] [(.ref o0_)])) _
    refine X0.arraylength hx (by rw [e0]; exact r1.1) (State.isArrayOf_alike hZ.alike r1.2.1) (g := (mkF m 1 #[.val (.ref o0_), .val (.ref o1_), .unset] [(.ref o0_)])) rfl rfl (hb hby d9_1) _ ?_
    rw [len_of s1 z1]
    show Steps p.tables e below (s₁.setTop (mkF m 2 #[.val (.ref o0_), .val (.ref o1_), .unset] [(.int (7 : Int32))])) _
    refine XS.aloadN X0.here hx rfl (hb hby d9_2) rfl rfl ?_
    show Steps p.tables e below (s₁.setTop (mkF m 3 #[.val (.ref o0_), .val (.ref o1_), .unset] [(.ref o1_), (.int (7 : Int32))])) _
    refine X0.arraylength hx (by rw [e0]; exact r3.1) (State.isArrayOf_alike hZ.alike r3.2.1) (g := (mkF m 3 #[.val (.ref o0_), .val (.ref o1_), .unset] [(.ref o1_), (.int (7 : Int32))])) rfl rfl (hb hby d9_3) _ ?_
    rw [len_of s3 z3]
    show Steps p.tables e below (s₁.setTop (mkF m 4 #[.val (.ref o0_), .val (.ref o1_), .unset] [(.int (7 : Int32)), (.int (7 : Int32))])) _
    refine XS.icmpNo X0.here hx rfl (hb hby d9_4) rfl (teq (by decide : (7 : Int32) = (7 : Int32))).2 ?_
    show Steps p.tables e below (s₁.setTop (mkF m 7 #[.val (.ref o0_), .val (.ref o1_), .unset] [])) _
    refine XS.iconst X0.here hx rfl (hb hby d9_7) ?_
    show Steps p.tables e below (s₁.setTop (mkF m 8 #[.val (.ref o0_), .val (.ref o1_), .unset] [(.int (0 : Int32))])) _
    refine XS.istoreN X0.here hx rfl (hb hby d9_8) rfl (l' := #[.val (.ref o0_), .val (.ref o1_), .val (.int (0 : Int32))]) rfl ?_
    show Steps p.tables e below (s₁.setTop (mkF m 9 #[.val (.ref o0_), .val (.ref o1_), .val (.int (0 : Int32))] [])) _
    refine XS.iloadN X0.here hx rfl (hb hby d9_9) rfl ?_
    show Steps p.tables e below (s₁.setTop (mkF m 10 #[.val (.ref o0_), .val (.ref o1_), .val (.int (0 : Int32))] [(.int (0 : Int32))])) _
    refine XS.aloadN X0.here hx rfl (hb hby d9_10) rfl rfl ?_
    show Steps p.tables e below (s₁.setTop (mkF m 11 #[.val (.ref o0_), .val (.ref o1_), .val (.int (0 : Int32))] [(.ref o0_), (.int (0 : Int32))])) _
    refine X0.arraylength hx (by rw [e0]; exact r4.1) (State.isArrayOf_alike hZ.alike r4.2.1) (g := (mkF m 11 #[.val (.ref o0_), .val (.ref o1_), .val (.int (0 : Int32))] [(.ref o0_), (.int (0 : Int32))])) rfl rfl (hb hby d9_11) _ ?_
    rw [len_of s4 z4]
    show Steps p.tables e below (s₁.setTop (mkF m 12 #[.val (.ref o0_), .val (.ref o1_), .val (.int (0 : Int32))] [(.int (7 : Int32)), (.int (0 : Int32))])) _
    refine XS.icmpNo X0.here hx rfl (hb hby d9_12) rfl (tlt (by decide : (0 : Int32) < (7 : Int32))).2.1 ?_
    show Steps p.tables e below (s₁.setTop (mkF m 15 #[.val (.ref o0_), .val (.ref o1_), .val (.int (0 : Int32))] [])) _
    refine XS.aloadN X0.here hx rfl (hb hby d9_15) rfl rfl ?_
    show Steps p.tables e below (s₁.setTop (mkF m 16 #[.val (.ref o0_), .val (.ref o1_), .val (.int (0 : Int32))] [(.ref o0_)])) _
    refine XS.iloadN X0.here hx rfl (hb hby d9_16) rfl ?_
    show Steps p.tables e below (s₁.setTop (mkF m 17 #[.val (.ref o0_), .val (.ref o1_), .val (.int (0 : Int32))] [(.int (0 : Int32)), (.ref o0_)])) _
    refine X0.baloadBytes hx (j := (0 : Int32)) (v := (.int (103 : Int32))) (by rw [e0]; exact r7.1) (State.isArrayOf_alike hZ.alike r7.2.1) r7.2.2 hin7 hat7 (g := (mkF m 17 #[.val (.ref o0_), .val (.ref o1_), .val (.int (0 : Int32))] [(.int (0 : Int32)), (.ref o0_)])) rfl rfl (hb hby d9_17) _ ?_
    show Steps p.tables e below (s₁.setTop (mkF m 18 #[.val (.ref o0_), .val (.ref o1_), .val (.int (0 : Int32))] [(.int (103 : Int32))])) _
    refine XS.aloadN X0.here hx rfl (hb hby d9_18) rfl rfl ?_
    show Steps p.tables e below (s₁.setTop (mkF m 19 #[.val (.ref o0_), .val (.ref o1_), .val (.int (0 : Int32))] [(.ref o1_), (.int (103 : Int32))])) _
    refine XS.iloadN X0.here hx rfl (hb hby d9_19) rfl ?_
    show Steps p.tables e below (s₁.setTop (mkF m 20 #[.val (.ref o0_), .val (.ref o1_), .val (.int (0 : Int32))] [(.int (0 : Int32)), (.ref o1_), (.int (103 : Int32))])) _
    refine X0.baloadBytes hx (j := (0 : Int32)) (v := (.int (114 : Int32))) (by rw [e0]; exact r8.1) (State.isArrayOf_alike hZ.alike r8.2.1) r8.2.2 hin8 hat8 (g := (mkF m 20 #[.val (.ref o0_), .val (.ref o1_), .val (.int (0 : Int32))] [(.int (0 : Int32)), (.ref o1_), (.int (103 : Int32))])) rfl rfl (hb hby d9_20) _ ?_
    show Steps p.tables e below (s₁.setTop (mkF m 21 #[.val (.ref o0_), .val (.ref o1_), .val (.int (0 : Int32))] [(.int (114 : Int32)), (.int (103 : Int32))])) _
    refine XS.icmpNo X0.here hx rfl (hb hby d9_21) rfl (feq (by decide : ¬ ((103 : Int32) = (114 : Int32)))).1 ?_
    show Steps p.tables e below (s₁.setTop (mkF m 24 #[.val (.ref o0_), .val (.ref o1_), .val (.int (0 : Int32))] [])) _
    refine XS.iconst X0.here hx rfl (hb hby d9_24) ?_
    exact kt
  obtain ⟨fs, hr, hrun, hended, hW, hsame⟩ := X0.leave (v := some (.int (0 : Int32))) (fun h => by rw [Bd.returns] at h; cases h)
  refine ⟨_, _, pre9 _ (retN X0 hx (t := .boolean) Bd.returns (by simp) (hb hby d9_25) hr), hrun, hended, _, _, rfl, ?_, ⟨_, rfl⟩, hW, hsame.mono (by decide) (by decide)⟩
  show Qequals24 Z o0_ o1_ ko0_ ko1_ h0 n0 _ s₁.heap _
  rw [e0]
  exact ⟨rfl, N0, rfl⟩
theorem d8_54 : decode jdk_42_method_66_code 54 = .ok (.iconst 0, 1) := by decide +kernel
theorem efequals23 (m : MethodId) (o0_ : Addr) (o1_ : Addr) : entryFrame m #[(.ref o0_), (.ref o1_)] 3 = mkF m 0 #[.val (.ref o0_), .val (.ref o1_), .unset] [] := by first | (simp [entryFrame, mkF, argsToLocals, Value.category]; done) | rfl
def Qequals23 (Z : State) (o0_ : Addr) (o1_ : Addr) (o2_ : Addr) (o3_ : Addr) (ko2_ : ClassId) (ko3_ : ClassId) (x0_ : Int32) (h0 : Heap) (n0 : Nat) (v : Option Value) (h : Heap) (L : List Loc) : Prop := v = some (.int (0 : Int32)) ∧ Fr n0 L ∧ h = h0
set_option maxRecDepth 65536 in
set_option maxHeartbeats 40000000 in
theorem rmequals23 (l : Launch) (Z : State) (a0 : Array Value) (hw : ∀ d ∈ tables_1, d.before a0 Z = true) (ws : List Jvm.Cond) (o0_ : Addr) (o1_ : Addr) (o2_ : Addr) (o3_ : Addr) (ko2_ : ClassId) (ko3_ : ClassId) (x0_ : Int32) (h0 : Heap) (n0 : Nat) (O0 : Old Z n0 h0) (P0 : Exa Z Z.heap o0_ "java/lang/String") (P1 : Fld Z Z.heap o0_ "java/lang/String" "value" "[B" (.ref o2_)) (P2 : Fld Z Z.heap o0_ "java/lang/String" "coder" "B" (.int (0 : Int32))) (P3 : Exa Z h0 o1_ "java/lang/String") (P4 : Fld Z h0 o1_ "java/lang/String" "coder" "B" (.int (0 : Int32))) (P5 : Fld Z h0 o1_ "java/lang/String" "value" "[B" (.ref o3_)) (P6 : Arv Z Z.heap o2_ ko2_ .byte (7 : Int32) [(.int (103 : Int32)), (.int (114 : Int32)), (.int (97 : Int32)), (.int (110 : Int32)), (.int (116 : Int32)), (.int (101 : Int32)), (.int (100 : Int32))] (.int (0 : Int32))) (P7 : Arv Z h0 o3_ ko3_ .byte (7 : Int32) [(.int (114 : Int32)), (.int (101 : Int32)), (.int (102 : Int32)), (.int (117 : Int32)), (.int (115 : Int32)), (.int (101 : Int32)), (.int (100 : Int32))] (.int (0 : Int32))) (P8 : Exa Z h0 o3_ "[B") (P9 : n0 ≤ o1_) (P10 : ¬ (x0_ = (0 : Int32))) (P11 : Sta Z Z.heap "java/lang/String" "COMPACT_STRINGS" "Z" (.int x0_)) :
    MetFree l (⟨"java/lang/String", "equals", "(Ljava/lang/Object;)Z"⟩ : MethodName) (head1 (Jvm.Cond.code (⟨"java/lang/String", "equals", "(Ljava/lang/Object;)Z"⟩ : MethodName) jdk_42_method_66_code 3 (some .boolean) :: ws) ({ frames := 1, cells := 0, slots := 0, locals := 14 } : Room)) (fun a U => a = #[(.ref o0_), (.ref o1_)] ∧ Z.Warmed39 U.vm ∧ U.heap = h0) (fun _ _ _ _ _ => True) (fun _ U o U' => ∃ v L, o = .returned v ∧ Qequals23 Z o0_ o1_ o2_ o3_ ko2_ ko3_ x0_ h0 n0 v U'.heap L ∧ FrameEnd U o U' L ({ frames := 1, cells := 0, slots := 0, locals := 14 } : Room).cells ({ frames := 1, cells := 0, slots := 0, locals := 14 } : Room).slots) := by
  refine MetFree.of_bodySF (plainFor_of_name pn_1) hisR ?_
  intro p e s m args below meth c s₁ Bd hml0 hP hK
  obtain ⟨rfl, hZ, hh⟩ := hP
  have hx := Bd.exec
  have hby := Bd.bytes
  have hml : c.maxLocals = 3 := hml0
  have hown : s.vm.findClass "java/lang/String" = some m.cls := findClass_of_methodNamed Bd.named
  have hnm := (name_of_methodNamed Bd.named Bd.method).1
  have X0 : Stand p l e ({ frames := 1, cells := 0, slots := 0, locals := 14 } : Room) s m #[(.ref o0_), (.ref o1_)] below meth c s₁ [] 0 0 := Stand.of_body Bd
  have e0 : s₁.heap = h0 := by rw [← hh, Bd.state]; rfl
  have N0 := Fr.nil n0
  have pre0 : ∀ t, Steps p.tables e below (s₁.setTop (mkF m 0 #[.val (.ref o0_), .val (.ref o1_), .unset] [])) t → Steps p.tables e below (s₁.setTop (entryFrame m #[(.ref o0_), (.ref o1_)] 3)) t := fun t k => castTop (efequals23 m o0_ o1_) k
  have K0 : Keep h0 h0 [] := Keep.refl _ _
  have ne1 : o0_ ≠ o1_ := O0.ne P0.lt P9
  obtain ⟨T2, X2, e2, st2⟩ := instY X0 hx hZ hown (hw _ (List.mem_of_getElem? (i := 61) rfl)) e0 (Ins.self P3) (g := (mkF m 8 #[.val (.ref o0_), .val (.ref o1_), .unset] [(.ref o1_)])) rfl rfl (hb hby d8_8)
  obtain ⟨T3, X3, e3, st3⟩ := castY X2 hx hZ hown (hw _ (List.mem_of_getElem? (i := 61) rfl)) e2 (Ins.self P3) (g := (mkF m 15 #[.val (.ref o0_), .val (.ref o1_), .unset] [(.ref o1_)])) rfl rfl (hb hby d8_15)
  obtain ⟨T4, X4, e4, st4⟩ := getS2 X3 hx hZ hown (host := "") (Or.inl (hw _ (List.mem_of_getElem? (i := 18) rfl))) Via.refl e3 (P11.ext O0.2) (g := (mkF m 19 #[.val (.ref o0_), .val (.ref o1_), .val (.ref o1_)] [])) rfl (hb hby d8_19)
  have f5 : Fld Z h0 o0_ "java/lang/String" "coder" "B" (.int (0 : Int32)) := P2.ext O0.2
  obtain ⟨T6, X6, e6, st6⟩ := getF X4 hx hZ hown (host := "") (Or.inl (hw _ (List.mem_of_getElem? (i := 30) rfl))) Via.refl e4 f5 (g := (mkF m 26 #[.val (.ref o0_), .val (.ref o1_), .val (.ref o1_)] [(.ref o0_)])) rfl rfl (hb hby d8_26)
  obtain ⟨T7, X7, e7, st7⟩ := getF X6 hx hZ hown (host := "") (Or.inl (hw _ (List.mem_of_getElem? (i := 30) rfl))) Via.refl e6 P4 (g := (mkF m 30 #[.val (.ref o0_), .val (.ref o1_), .val (.ref o1_)] [(.ref o1_), (.int (0 : Int32))])) rfl rfl (hb hby d8_30)
  have f8 : Fld Z h0 o0_ "java/lang/String" "value" "[B" (.ref o2_) := P1.ext O0.2
  obtain ⟨T9, X9, e9, st9⟩ := getF X7 hx hZ hown (host := "") (Or.inl (hw _ (List.mem_of_getElem? (i := 32) rfl))) Via.refl e7 f8 (g := (mkF m 37 #[.val (.ref o0_), .val (.ref o1_), .val (.ref o1_)] [(.ref o0_)])) rfl rfl (hb hby d8_37)
  obtain ⟨T10, X10, e10, st10⟩ := getF X9 hx hZ hown (host := "") (Or.inl (hw _ (List.mem_of_getElem? (i := 32) rfl))) Via.refl e9 P5 (g := (mkF m 41 #[.val (.ref o0_), .val (.ref o1_), .val (.ref o1_)] [(.ref o1_), (.ref o2_)])) rfl rfl (hb hby d8_41)
  obtain ⟨_, _, ⟨T11, L11, k11, n11⟩, -, X11, ⟨Lc11, hQ11, l11, y11, z11⟩, st11⟩ := Jvm.LawKit.callS X10 hx (y := (⟨"java/lang/StringLatin1", "equals", "([B[B)Z"⟩ : MethodName)) hown (mvT hZ (hw _ (List.mem_of_getElem? (i := 62) rfl))) (mvT hZ (hw _ (List.mem_of_getElem? (i := 63) rfl))) (mvT hZ (hw _ (List.mem_of_getElem? (i := 64) rfl))) (mvT hZ (hw _ (List.mem_of_getElem? (i := 65) rfl))) (by decide) (backOf (W := 0) (rmequals24 l Z a0 hw [] o2_ o3_ ko2_ ko3_ h0 n0 O0 P6 P7 P8) hZ (hw _ (List.mem_of_getElem? (i := 65) rfl)) (hw _ (List.mem_of_getElem? (i := 64) rfl)) (by decide) (by decide)) (g := (mkF m 44 #[.val (.ref o0_), .val (.ref o1_), .val (.ref o1_)] [(.ref o3_), (.ref o2_)])) rfl (by rw [hml]; rfl) (argsL := [(.ref o2_), (.ref o3_)]) (rest := []) (lenOf pd_6 rfl) rfl (by show 2 * 0 + _ ≤ _; exact Nat.le_of_eq rfl) (hb hby d8_44) (fun _ _ => ⟨rfl, e10, (by decide : 0 + 0 ≤ _), (by decide : 0 + 0 ≤ _)⟩)
  dsimp only [Pt.U, Pt.locs, Pt.cells, Pt.slots] at X11 l11 y11 z11 st11 hQ11
  subst l11 y11 z11
  obtain ⟨h11, e11⟩ : ∃ z, T11.heap = z := ⟨_, rfl⟩
  rw [e11] at hQ11
  obtain ⟨rfl, N11q, hh11⟩ := hQ11
  have N12 := Fr.app N0 N11q
  have e11' : T11.heap = h0 := e11.trans hh11
  have pre13 : ∀ t, Steps p.tables e below (T11.setTop (mkF m 55 #[.val (.ref o0_), .val (.ref o1_), .val (.ref o1_)] [(.int (0 : Int32))])) t → Steps p.tables e below (s₁.setTop (entryFrame m #[(.ref o0_), (.ref o1_)] 3)) t := by
    intro t kt
    refine pre0 t ?_
    show Steps p.tables e below (s₁.setTop (mkF m 0 #[.val (.ref o0_), .val (.ref o1_), .unset] [])) _
    refine XS.aloadN X0.here hx rfl (hb hby d8_0) rfl rfl ?_
    show Steps p.tables e below (s₁.setTop (mkF m 1 #[.val (.ref o0_), .val (.ref o1_), .unset] [(.ref o0_)])) _
    refine XS.aloadN X0.here hx rfl (hb hby d8_1) rfl rfl ?_
    show Steps p.tables e below (s₁.setTop (mkF m 2 #[.val (.ref o0_), .val (.ref o1_), .unset] [(.ref o1_), (.ref o0_)])) _
    refine Jvm.RoadKit.acmp (g := (mkF m 2 #[.val (.ref o0_), .val (.ref o1_), .unset] [(.ref o1_), (.ref o0_)])) X0 hx rfl rfl rfl (pc0 := 2) (pc' := 7) (same := false) rfl (hb hby d8_2) rfl (decide_eq_false fun q => ne1 (Value.ref.inj q)) (by decide) (by decide) ?_
    show Steps p.tables e below (s₁.setTop (mkF m 7 #[.val (.ref o0_), .val (.ref o1_), .unset] [])) _
    refine XS.aloadN X0.here hx rfl (hb hby d8_7) rfl rfl ?_
    show Steps p.tables e below (s₁.setTop (mkF m 8 #[.val (.ref o0_), .val (.ref o1_), .unset] [(.ref o1_)])) _
    refine st2 _ ?_
    show Steps p.tables e below (T2.setTop (mkF m 11 #[.val (.ref o0_), .val (.ref o1_), .unset] [(.int (1 : Int32))])) _
    refine XS.ifNo X2.here hx rfl (hb hby d8_11) rfl ((if0 _ _).trans (feq (by decide : ¬ ((1 : Int32) = (0 : Int32)))).1) ?_
    show Steps p.tables e below (T2.setTop (mkF m 14 #[.val (.ref o0_), .val (.ref o1_), .unset] [])) _
    refine XS.aloadN X2.here hx rfl (hb hby d8_14) rfl rfl ?_
    show Steps p.tables e below (T2.setTop (mkF m 15 #[.val (.ref o0_), .val (.ref o1_), .unset] [(.ref o1_)])) _
    refine st3 _ ?_
    show Steps p.tables e below (T3.setTop (mkF m 18 #[.val (.ref o0_), .val (.ref o1_), .unset] [(.ref o1_)])) _
    refine XS.astoreN X3.here hx rfl (hb hby d8_18) rfl rfl (l' := #[.val (.ref o0_), .val (.ref o1_), .val (.ref o1_)]) rfl ?_
    show Steps p.tables e below (T3.setTop (mkF m 19 #[.val (.ref o0_), .val (.ref o1_), .val (.ref o1_)] [])) _
    refine st4 _ ?_
    show Steps p.tables e below (T4.setTop (mkF m 22 #[.val (.ref o0_), .val (.ref o1_), .val (.ref o1_)] [(.int x0_)])) _
    refine XS.ifNo X4.here hx rfl (hb hby d8_22) rfl ((if0 _ _).trans (feq P10).1) ?_
    show Steps p.tables e below (T4.setTop (mkF m 25 #[.val (.ref o0_), .val (.ref o1_), .val (.ref o1_)] [])) _
    refine XS.aloadN X4.here hx rfl (hb hby d8_25) rfl rfl ?_
    show Steps p.tables e below (T4.setTop (mkF m 26 #[.val (.ref o0_), .val (.ref o1_), .val (.ref o1_)] [(.ref o0_)])) _
    refine st6 _ ?_
    show Steps p.tables e below (T6.setTop (mkF m 29 #[.val (.ref o0_), .val (.ref o1_), .val (.ref o1_)] [(.int (0 : Int32))])) _
    refine XS.aloadN X6.here hx rfl (hb hby d8_29) rfl rfl ?_
    show Steps p.tables e below (T6.setTop (mkF m 30 #[.val (.ref o0_), .val (.ref o1_), .val (.ref o1_)] [(.ref o1_), (.int (0 : Int32))])) _
    refine st7 _ ?_
    show Steps p.tables e below (T7.setTop (mkF m 33 #[.val (.ref o0_), .val (.ref o1_), .val (.ref o1_)] [(.int (0 : Int32)), (.int (0 : Int32))])) _
    refine XS.icmpNo X7.here hx rfl (hb hby d8_33) rfl (teq (by decide : (0 : Int32) = (0 : Int32))).2 ?_
    show Steps p.tables e below (T7.setTop (mkF m 36 #[.val (.ref o0_), .val (.ref o1_), .val (.ref o1_)] [])) _
    refine XS.aloadN X7.here hx rfl (hb hby d8_36) rfl rfl ?_
    show Steps p.tables e below (T7.setTop (mkF m 37 #[.val (.ref o0_), .val (.ref o1_), .val (.ref o1_)] [(.ref o0_)])) _
    refine st9 _ ?_
    show Steps p.tables e below (T9.setTop (mkF m 40 #[.val (.ref o0_), .val (.ref o1_), .val (.ref o1_)] [(.ref o2_)])) _
    refine XS.aloadN X9.here hx rfl (hb hby d8_40) rfl rfl ?_
    show Steps p.tables e below (T9.setTop (mkF m 41 #[.val (.ref o0_), .val (.ref o1_), .val (.ref o1_)] [(.ref o1_), (.ref o2_)])) _
    refine st10 _ ?_
    show Steps p.tables e below (T10.setTop (mkF m 44 #[.val (.ref o0_), .val (.ref o1_), .val (.ref o1_)] [(.ref o3_), (.ref o2_)])) _
    refine st11 _ ?_
    show Steps p.tables e below (T11.setTop (mkF m 47 #[.val (.ref o0_), .val (.ref o1_), .val (.ref o1_)] [(.int (0 : Int32))])) _
    refine XS.ifYes X11.here hx rfl (pc0 := 47) (pc' := 54) rfl (hb hby d8_47) rfl ((if0 _ _).trans (teq (by decide : (0 : Int32) = (0 : Int32))).1) (by decide) (by decide) ?_
    show Steps p.tables e below (T11.setTop (mkF m 54 #[.val (.ref o0_), .val (.ref o1_), .val (.ref o1_)] [])) _
    refine XS.iconst X11.here hx rfl (hb hby d8_54) ?_
    exact kt
  obtain ⟨fs, hr, hrun, hended, hW, hsame⟩ := X11.leave (v := some (.int (0 : Int32))) (fun h => by rw [Bd.returns] at h; cases h)
  refine ⟨_, _, pre13 _ (retN X11 hx (t := .boolean) Bd.returns (by simp) (hb hby d8_55) hr), hrun, hended, _, _, rfl, ?_, ⟨_, rfl⟩, hW, hsame.mono (by decide) (by decide)⟩
  show Qequals23 Z o0_ o1_ o2_ o3_ ko2_ ko3_ x0_ h0 n0 _ T11.heap _
  rw [e11']
  exact ⟨rfl, N12, rfl⟩
theorem d6_34 : decode prog_29_method_5_code 34 = .ok (.iinc 3 1, 3) := by decide +kernel
theorem d6_37 : decode prog_29_method_5_code 37 = .ok (.goto (-28), 3) := by decide +kernel
theorem efequals26 (m : MethodId) (o0_ : Addr) (o1_ : Addr) : entryFrame m #[(.ref o0_), (.ref o1_)] 3 = mkF m 0 #[.val (.ref o0_), .val (.ref o1_), .unset] [] := by first | (simp [entryFrame, mkF, argsToLocals, Value.category]; done) | rfl
def Qequals26 (Z : State) (o0_ : Addr) (o1_ : Addr) (ko0_ : ClassId) (ko1_ : ClassId) (h0 : Heap) (n0 : Nat) (v : Option Value) (h : Heap) (L : List Loc) : Prop := v = some (.int (1 : Int32)) ∧ Fr n0 L ∧ h = h0
set_option maxRecDepth 65536 in
set_option maxHeartbeats 40000000 in
theorem rmequals26 (l : Launch) (Z : State) (a0 : Array Value) (hw : ∀ d ∈ tables_1, d.before a0 Z = true) (ws : List Jvm.Cond) (o0_ : Addr) (o1_ : Addr) (ko0_ : ClassId) (ko1_ : ClassId) (h0 : Heap) (n0 : Nat) (O0 : Old Z n0 h0) (P0 : Arv Z Z.heap o0_ ko0_ .byte (7 : Int32) [(.int (114 : Int32)), (.int (101 : Int32)), (.int (102 : Int32)), (.int (117 : Int32)), (.int (115 : Int32)), (.int (101 : Int32)), (.int (100 : Int32))] (.int (0 : Int32))) (P1 : Arv Z h0 o1_ ko1_ .byte (7 : Int32) [(.int (114 : Int32)), (.int (101 : Int32)), (.int (102 : Int32)), (.int (117 : Int32)), (.int (115 : Int32)), (.int (101 : Int32)), (.int (100 : Int32))] (.int (0 : Int32))) (P2 : Exa Z h0 o1_ "[B") :
    MetFree l (⟨"java/lang/StringLatin1", "equals", "([B[B)Z"⟩ : MethodName) (head1 (Jvm.Cond.code (⟨"java/lang/StringLatin1", "equals", "([B[B)Z"⟩ : MethodName) jdk_43_method_13_code 3 (some .boolean) :: ws) ({ frames := 0, cells := 0, slots := 0, locals := 0 } : Room)) (fun a U => a = #[(.ref o0_), (.ref o1_)] ∧ Z.Warmed39 U.vm ∧ U.heap = h0) (fun _ _ _ _ _ => True) (fun _ U o U' => ∃ v L, o = .returned v ∧ Qequals26 Z o0_ o1_ ko0_ ko1_ h0 n0 v U'.heap L ∧ FrameEnd U o U' L ({ frames := 0, cells := 0, slots := 0, locals := 0 } : Room).cells ({ frames := 0, cells := 0, slots := 0, locals := 0 } : Room).slots) := by
  refine MetFree.of_bodySF (plainFor_of_name pn_3) hisR ?_
  intro p e s m args below meth c s₁ Bd hml0 hP hK
  obtain ⟨rfl, hZ, hh⟩ := hP
  have hx := Bd.exec
  have hby := Bd.bytes
  have hml : c.maxLocals = 3 := hml0
  have hown : s.vm.findClass "java/lang/StringLatin1" = some m.cls := findClass_of_methodNamed Bd.named
  have hnm := (name_of_methodNamed Bd.named Bd.method).1
  have X0 : Stand p l e ({ frames := 0, cells := 0, slots := 0, locals := 0 } : Room) s m #[(.ref o0_), (.ref o1_)] below meth c s₁ [] 0 0 := Stand.of_body Bd
  have e0 : s₁.heap = h0 := by rw [← hh, Bd.state]; rfl
  have N0 := Fr.nil n0
  have pre0 : ∀ t, Steps p.tables e below (s₁.setTop (mkF m 0 #[.val (.ref o0_), .val (.ref o1_), .unset] [])) t → Steps p.tables e below (s₁.setTop (entryFrame m #[(.ref o0_), (.ref o1_)] 3)) t := fun t k => castTop (efequals26 m o0_ o1_) k
  have K0 : Keep h0 h0 [] := Keep.refl _ _
  have f2 : Arv Z h0 o0_ ko0_ .byte (7 : Int32) [(.int (114 : Int32)), (.int (101 : Int32)), (.int (102 : Int32)), (.int (117 : Int32)), (.int (115 : Int32)), (.int (101 : Int32)), (.int (100 : Int32))] (.int (0 : Int32)) := P0.ext O0.2
  obtain ⟨c1, r1, q1, s1, z1, y1, G1⟩ := id f2
  obtain ⟨c3, r3, q3, s3, z3, y3, G3⟩ := id P1
  have f5 : Arv Z h0 o0_ ko0_ .byte (7 : Int32) [(.int (114 : Int32)), (.int (101 : Int32)), (.int (102 : Int32)), (.int (117 : Int32)), (.int (115 : Int32)), (.int (101 : Int32)), (.int (100 : Int32))] (.int (0 : Int32)) := P0.ext O0.2
  obtain ⟨c4, r4, q4, s4, z4, y4, G4⟩ := id f5
  have f6 : Arv Z h0 o0_ ko0_ .byte (7 : Int32) [(.int (114 : Int32)), (.int (101 : Int32)), (.int (102 : Int32)), (.int (117 : Int32)), (.int (115 : Int32)), (.int (101 : Int32)), (.int (100 : Int32))] (.int (0 : Int32)) := P0.ext O0.2
  obtain ⟨c7, r7, q7, s7, z7, y7, G7⟩ := id f6
  have hin7 : ¬ ((0 : Int32) < 0 ∨ c7.slots.size ≤ ((0 : Int32)).toNatClampNeg) := inb_of s7 ⟨by decide, by decide⟩
  have hat7 : c7.slots[((0 : Int32)).toNatClampNeg]? = some (.int (114 : Int32)) := Has.at y7 hin7 rfl
  obtain ⟨c8, r8, q8, s8, z8, y8, G8⟩ := id P1
  have hin8 : ¬ ((0 : Int32) < 0 ∨ c8.slots.size ≤ ((0 : Int32)).toNatClampNeg) := inb_of s8 ⟨by decide, by decide⟩
  have hat8 : c8.slots[((0 : Int32)).toNatClampNeg]? = some (.int (114 : Int32)) := Has.at y8 hin8 rfl
  have f10 : Arv Z h0 o0_ ko0_ .byte (7 : Int32) [(.int (114 : Int32)), (.int (101 : Int32)), (.int (102 : Int32)), (.int (117 : Int32)), (.int (115 : Int32)), (.int (101 : Int32)), (.int (100 : Int32))] (.int (0 : Int32)) := P0.ext O0.2
  obtain ⟨c9, r9, q9, s9, z9, y9, G9⟩ := id f10
  have f11 : Arv Z h0 o0_ ko0_ .byte (7 : Int32) [(.int (114 : Int32)), (.int (101 : Int32)), (.int (102 : Int32)), (.int (117 : Int32)), (.int (115 : Int32)), (.int (101 : Int32)), (.int (100 : Int32))] (.int (0 : Int32)) := P0.ext O0.2
  obtain ⟨c12, r12, q12, s12, z12, y12, G12⟩ := id f11
  have hin12 : ¬ ((1 : Int32) < 0 ∨ c12.slots.size ≤ ((1 : Int32)).toNatClampNeg) := inb_of s12 ⟨by decide, by decide⟩
  have hat12 : c12.slots[((1 : Int32)).toNatClampNeg]? = some (.int (101 : Int32)) := Has.at y12 hin12 rfl
  obtain ⟨c13, r13, q13, s13, z13, y13, G13⟩ := id P1
  have hin13 : ¬ ((1 : Int32) < 0 ∨ c13.slots.size ≤ ((1 : Int32)).toNatClampNeg) := inb_of s13 ⟨by decide, by decide⟩
  have hat13 : c13.slots[((1 : Int32)).toNatClampNeg]? = some (.int (101 : Int32)) := Has.at y13 hin13 rfl
  have f15 : Arv Z h0 o0_ ko0_ .byte (7 : Int32) [(.int (114 : Int32)), (.int (101 : Int32)), (.int (102 : Int32)), (.int (117 : Int32)), (.int (115 : Int32)), (.int (101 : Int32)), (.int (100 : Int32))] (.int (0 : Int32)) := P0.ext O0.2
  obtain ⟨c14, r14, q14, s14, z14, y14, G14⟩ := id f15
  have f16 : Arv Z h0 o0_ ko0_ .byte (7 : Int32) [(.int (114 : Int32)), (.int (101 : Int32)), (.int (102 : Int32)), (.int (117 : Int32)), (.int (115 : Int32)), (.int (101 : Int32)), (.int (100 : Int32))] (.int (0 : Int32)) := P0.ext O0.2
  obtain ⟨c17, r17, q17, s17, z17, y17, G17⟩ := id f16
  have hin17 : ¬ ((2 : Int32) < 0 ∨ c17.slots.size ≤ ((2 : Int32)).toNatClampNeg) := inb_of s17 ⟨by decide, by decide⟩
  have hat17 : c17.slots[((2 : Int32)).toNatClampNeg]? = some (.int (102 : Int32)) := Has.at y17 hin17 rfl
  obtain ⟨c18, r18, q18, s18, z18, y18, G18⟩ := id P1
  have hin18 : ¬ ((2 : Int32) < 0 ∨ c18.slots.size ≤ ((2 : Int32)).toNatClampNeg) := inb_of s18 ⟨by decide, by decide⟩
  have hat18 : c18.slots[((2 : Int32)).toNatClampNeg]? = some (.int (102 : Int32)) := Has.at y18 hin18 rfl
  have f20 : Arv Z h0 o0_ ko0_ .byte (7 : Int32) [(.int (114 : Int32)), (.int (101 : Int32)), (.int (102 : Int32)), (.int (117 : Int32)), (.int (115 : Int32)), (.int (101 : Int32)), (.int (100 : Int32))] (.int (0 : Int32)) := P0.ext O0.2
  obtain ⟨c19, r19, q19, s19, z19, y19, G19⟩ := id f20
  have f21 : Arv Z h0 o0_ ko0_ .byte (7 : Int32) [(.int (114 : Int32)), (.int (101 : Int32)), (.int (102 : Int32)), (.int (117 : Int32)), (.int (115 : Int32)), (.int (101 : Int32)), (.int (100 : Int32))] (.int (0 : Int32)) := P0.ext O0.2
  obtain ⟨c22, r22, q22, s22, z22, y22, G22⟩ := id f21
  have hin22 : ¬ ((3 : Int32) < 0 ∨ c22.slots.size ≤ ((3 : Int32)).toNatClampNeg) := inb_of s22 ⟨by decide, by decide⟩
  have hat22 : c22.slots[((3 : Int32)).toNatClampNeg]? = some (.int (117 : Int32)) := Has.at y22 hin22 rfl
  obtain ⟨c23, r23, q23, s23, z23, y23, G23⟩ := id P1
  have hin23 : ¬ ((3 : Int32) < 0 ∨ c23.slots.size ≤ ((3 : Int32)).toNatClampNeg) := inb_of s23 ⟨by decide, by decide⟩
  have hat23 : c23.slots[((3 : Int32)).toNatClampNeg]? = some (.int (117 : Int32)) := Has.at y23 hin23 rfl
  have f25 : Arv Z h0 o0_ ko0_ .byte (7 : Int32) [(.int (114 : Int32)), (.int (101 : Int32)), (.int (102 : Int32)), (.int (117 : Int32)), (.int (115 : Int32)), (.int (101 : Int32)), (.int (100 : Int32))] (.int (0 : Int32)) := P0.ext O0.2
  obtain ⟨c24, r24, q24, s24, z24, y24, G24⟩ := id f25
  have f26 : Arv Z h0 o0_ ko0_ .byte (7 : Int32) [(.int (114 : Int32)), (.int (101 : Int32)), (.int (102 : Int32)), (.int (117 : Int32)), (.int (115 : Int32)), (.int (101 : Int32)), (.int (100 : Int32))] (.int (0 : Int32)) := P0.ext O0.2
  obtain ⟨c27, r27, q27, s27, z27, y27, G27⟩ := id f26
  have hin27 : ¬ ((4 : Int32) < 0 ∨ c27.slots.size ≤ ((4 : Int32)).toNatClampNeg) := inb_of s27 ⟨by decide, by decide⟩
  have hat27 : c27.slots[((4 : Int32)).toNatClampNeg]? = some (.int (115 : Int32)) := Has.at y27 hin27 rfl
  obtain ⟨c28, r28, q28, s28, z28, y28, G28⟩ := id P1
  have hin28 : ¬ ((4 : Int32) < 0 ∨ c28.slots.size ≤ ((4 : Int32)).toNatClampNeg) := inb_of s28 ⟨by decide, by decide⟩
  have hat28 : c28.slots[((4 : Int32)).toNatClampNeg]? = some (.int (115 : Int32)) := Has.at y28 hin28 rfl
  have f30 : Arv Z h0 o0_ ko0_ .byte (7 : Int32) [(.int (114 : Int32)), (.int (101 : Int32)), (.int (102 : Int32)), (.int (117 : Int32)), (.int (115 : Int32)), (.int (101 : Int32)), (.int (100 : Int32))] (.int (0 : Int32)) := P0.ext O0.2
  obtain ⟨c29, r29, q29, s29, z29, y29, G29⟩ := id f30
  have f31 : Arv Z h0 o0_ ko0_ .byte (7 : Int32) [(.int (114 : Int32)), (.int (101 : Int32)), (.int (102 : Int32)), (.int (117 : Int32)), (.int (115 : Int32)), (.int (101 : Int32)), (.int (100 : Int32))] (.int (0 : Int32)) := P0.ext O0.2
  obtain ⟨c32, r32, q32, s32, z32, y32, G32⟩ := id f31
  have hin32 : ¬ ((5 : Int32) < 0 ∨ c32.slots.size ≤ ((5 : Int32)).toNatClampNeg) := inb_of s32 ⟨by decide, by decide⟩
  have hat32 : c32.slots[((5 : Int32)).toNatClampNeg]? = some (.int (101 : Int32)) := Has.at y32 hin32 rfl
  obtain ⟨c33, r33, q33, s33, z33, y33, G33⟩ := id P1
  have hin33 : ¬ ((5 : Int32) < 0 ∨ c33.slots.size ≤ ((5 : Int32)).toNatClampNeg) := inb_of s33 ⟨by decide, by decide⟩
  have hat33 : c33.slots[((5 : Int32)).toNatClampNeg]? = some (.int (101 : Int32)) := Has.at y33 hin33 rfl
  have f35 : Arv Z h0 o0_ ko0_ .byte (7 : Int32) [(.int (114 : Int32)), (.int (101 : Int32)), (.int (102 : Int32)), (.int (117 : Int32)), (.int (115 : Int32)), (.int (101 : Int32)), (.int (100 : Int32))] (.int (0 : Int32)) := P0.ext O0.2
  obtain ⟨c34, r34, q34, s34, z34, y34, G34⟩ := id f35
  have f36 : Arv Z h0 o0_ ko0_ .byte (7 : Int32) [(.int (114 : Int32)), (.int (101 : Int32)), (.int (102 : Int32)), (.int (117 : Int32)), (.int (115 : Int32)), (.int (101 : Int32)), (.int (100 : Int32))] (.int (0 : Int32)) := P0.ext O0.2
  obtain ⟨c37, r37, q37, s37, z37, y37, G37⟩ := id f36
  have hin37 : ¬ ((6 : Int32) < 0 ∨ c37.slots.size ≤ ((6 : Int32)).toNatClampNeg) := inb_of s37 ⟨by decide, by decide⟩
  have hat37 : c37.slots[((6 : Int32)).toNatClampNeg]? = some (.int (100 : Int32)) := Has.at y37 hin37 rfl
  obtain ⟨c38, r38, q38, s38, z38, y38, G38⟩ := id P1
  have hin38 : ¬ ((6 : Int32) < 0 ∨ c38.slots.size ≤ ((6 : Int32)).toNatClampNeg) := inb_of s38 ⟨by decide, by decide⟩
  have hat38 : c38.slots[((6 : Int32)).toNatClampNeg]? = some (.int (100 : Int32)) := Has.at y38 hin38 rfl
  have f40 : Arv Z h0 o0_ ko0_ .byte (7 : Int32) [(.int (114 : Int32)), (.int (101 : Int32)), (.int (102 : Int32)), (.int (117 : Int32)), (.int (115 : Int32)), (.int (101 : Int32)), (.int (100 : Int32))] (.int (0 : Int32)) := P0.ext O0.2
  obtain ⟨c39, r39, q39, s39, z39, y39, G39⟩ := id f40
  have pre41 : ∀ t, Steps p.tables e below (s₁.setTop (mkF m 33 #[.val (.ref o0_), .val (.ref o1_), .val (.int (7 : Int32))] [(.int (1 : Int32))])) t → Steps p.tables e below (s₁.setTop (entryFrame m #[(.ref o0_), (.ref o1_)] 3)) t := by
    intro t kt
    refine pre0 t ?_
    show Steps p.tables e below (s₁.setTop (mkF m 0 #[.val (.ref o0_), .val (.ref o1_), .unset] [])) _
    refine XS.aloadN X0.here hx rfl (hb hby d9_0) rfl rfl ?_
    show Steps p.tables e below (s₁.setTop (mkF m 1 #[.val (.ref o0_), .val (.ref o1_), .unset] [(.ref o0_)])) _
    refine X0.arraylength hx (by rw [e0]; exact r1.1) (State.isArrayOf_alike hZ.alike r1.2.1) (g := (mkF m 1 #[.val (.ref o0_), .val (.ref o1_), .unset] [(.ref o0_)])) rfl rfl (hb hby d9_1) _ ?_
    rw [len_of s1 z1]
    show Steps p.tables e below (s₁.setTop (mkF m 2 #[.val (.ref o0_), .val (.ref o1_), .unset] [(.int (7 : Int32))])) _
    refine XS.aloadN X0.here hx rfl (hb hby d9_2) rfl rfl ?_
    show Steps p.tables e below (s₁.setTop (mkF m 3 #[.val (.ref o0_), .val (.ref o1_), .unset] [(.ref o1_), (.int (7 : Int32))])) _
    refine X0.arraylength hx (by rw [e0]; exact r3.1) (State.isArrayOf_alike hZ.alike r3.2.1) (g := (mkF m 3 #[.val (.ref o0_), .val (.ref o1_), .unset] [(.ref o1_), (.int (7 : Int32))])) rfl rfl (hb hby d9_3) _ ?_
    rw [len_of s3 z3]
    show Steps p.tables e below (s₁.setTop (mkF m 4 #[.val (.ref o0_), .val (.ref o1_), .unset] [(.int (7 : Int32)), (.int (7 : Int32))])) _
    refine XS.icmpNo X0.here hx rfl (hb hby d9_4) rfl (teq (by decide : (7 : Int32) = (7 : Int32))).2 ?_
    show Steps p.tables e below (s₁.setTop (mkF m 7 #[.val (.ref o0_), .val (.ref o1_), .unset] [])) _
    refine XS.iconst X0.here hx rfl (hb hby d9_7) ?_
    show Steps p.tables e below (s₁.setTop (mkF m 8 #[.val (.ref o0_), .val (.ref o1_), .unset] [(.int (0 : Int32))])) _
    refine XS.istoreN X0.here hx rfl (hb hby d9_8) rfl (l' := #[.val (.ref o0_), .val (.ref o1_), .val (.int (0 : Int32))]) rfl ?_
    show Steps p.tables e below (s₁.setTop (mkF m 9 #[.val (.ref o0_), .val (.ref o1_), .val (.int (0 : Int32))] [])) _
    refine XS.iloadN X0.here hx rfl (hb hby d9_9) rfl ?_
    show Steps p.tables e below (s₁.setTop (mkF m 10 #[.val (.ref o0_), .val (.ref o1_), .val (.int (0 : Int32))] [(.int (0 : Int32))])) _
    refine XS.aloadN X0.here hx rfl (hb hby d9_10) rfl rfl ?_
    show Steps p.tables e below (s₁.setTop (mkF m 11 #[.val (.ref o0_), .val (.ref o1_), .val (.int (0 : Int32))] [(.ref o0_), (.int (0 : Int32))])) _
    refine X0.arraylength hx (by rw [e0]; exact r4.1) (State.isArrayOf_alike hZ.alike r4.2.1) (g := (mkF m 11 #[.val (.ref o0_), .val (.ref o1_), .val (.int (0 : Int32))] [(.ref o0_), (.int (0 : Int32))])) rfl rfl (hb hby d9_11) _ ?_
    rw [len_of s4 z4]
    show Steps p.tables e below (s₁.setTop (mkF m 12 #[.val (.ref o0_), .val (.ref o1_), .val (.int (0 : Int32))] [(.int (7 : Int32)), (.int (0 : Int32))])) _
    refine XS.icmpNo X0.here hx rfl (hb hby d9_12) rfl (tlt (by decide : (0 : Int32) < (7 : Int32))).2.1 ?_
    show Steps p.tables e below (s₁.setTop (mkF m 15 #[.val (.ref o0_), .val (.ref o1_), .val (.int (0 : Int32))] [])) _
    refine XS.aloadN X0.here hx rfl (hb hby d9_15) rfl rfl ?_
    show Steps p.tables e below (s₁.setTop (mkF m 16 #[.val (.ref o0_), .val (.ref o1_), .val (.int (0 : Int32))] [(.ref o0_)])) _
    refine XS.iloadN X0.here hx rfl (hb hby d9_16) rfl ?_
    show Steps p.tables e below (s₁.setTop (mkF m 17 #[.val (.ref o0_), .val (.ref o1_), .val (.int (0 : Int32))] [(.int (0 : Int32)), (.ref o0_)])) _
    refine X0.baloadBytes hx (j := (0 : Int32)) (v := (.int (114 : Int32))) (by rw [e0]; exact r7.1) (State.isArrayOf_alike hZ.alike r7.2.1) r7.2.2 hin7 hat7 (g := (mkF m 17 #[.val (.ref o0_), .val (.ref o1_), .val (.int (0 : Int32))] [(.int (0 : Int32)), (.ref o0_)])) rfl rfl (hb hby d9_17) _ ?_
    show Steps p.tables e below (s₁.setTop (mkF m 18 #[.val (.ref o0_), .val (.ref o1_), .val (.int (0 : Int32))] [(.int (114 : Int32))])) _
    refine XS.aloadN X0.here hx rfl (hb hby d9_18) rfl rfl ?_
    show Steps p.tables e below (s₁.setTop (mkF m 19 #[.val (.ref o0_), .val (.ref o1_), .val (.int (0 : Int32))] [(.ref o1_), (.int (114 : Int32))])) _
    refine XS.iloadN X0.here hx rfl (hb hby d9_19) rfl ?_
    show Steps p.tables e below (s₁.setTop (mkF m 20 #[.val (.ref o0_), .val (.ref o1_), .val (.int (0 : Int32))] [(.int (0 : Int32)), (.ref o1_), (.int (114 : Int32))])) _
    refine X0.baloadBytes hx (j := (0 : Int32)) (v := (.int (114 : Int32))) (by rw [e0]; exact r8.1) (State.isArrayOf_alike hZ.alike r8.2.1) r8.2.2 hin8 hat8 (g := (mkF m 20 #[.val (.ref o0_), .val (.ref o1_), .val (.int (0 : Int32))] [(.int (0 : Int32)), (.ref o1_), (.int (114 : Int32))])) rfl rfl (hb hby d9_20) _ ?_
    show Steps p.tables e below (s₁.setTop (mkF m 21 #[.val (.ref o0_), .val (.ref o1_), .val (.int (0 : Int32))] [(.int (114 : Int32)), (.int (114 : Int32))])) _
    refine XS.icmpYes X0.here hx rfl (pc0 := 21) (pc' := 26) rfl (hb hby d9_21) rfl (teq (by decide : (114 : Int32) = (114 : Int32))).1 (by decide) (by decide) ?_
    show Steps p.tables e below (s₁.setTop (mkF m 26 #[.val (.ref o0_), .val (.ref o1_), .val (.int (0 : Int32))] [])) _
    refine XS.iinc X0.here hx rfl (hb hby d9_26) rfl (l' := #[.val (.ref o0_), .val (.ref o1_), .val (.int (1 : Int32))]) rfl ?_
    show Steps p.tables e below (s₁.setTop (mkF m 29 #[.val (.ref o0_), .val (.ref o1_), .val (.int (1 : Int32))] [])) _
    refine XS.goto X0.here hx rfl (pc0 := 29) (pc' := 9) rfl (hb hby d9_29) (by decide) (by decide) ?_
    show Steps p.tables e below (s₁.setTop (mkF m 9 #[.val (.ref o0_), .val (.ref o1_), .val (.int (1 : Int32))] [])) _
    refine XS.iloadN X0.here hx rfl (hb hby d9_9) rfl ?_
    show Steps p.tables e below (s₁.setTop (mkF m 10 #[.val (.ref o0_), .val (.ref o1_), .val (.int (1 : Int32))] [(.int (1 : Int32))])) _
    refine XS.aloadN X0.here hx rfl (hb hby d9_10) rfl rfl ?_
    show Steps p.tables e below (s₁.setTop (mkF m 11 #[.val (.ref o0_), .val (.ref o1_), .val (.int (1 : Int32))] [(.ref o0_), (.int (1 : Int32))])) _
    refine X0.arraylength hx (by rw [e0]; exact r9.1) (State.isArrayOf_alike hZ.alike r9.2.1) (g := (mkF m 11 #[.val (.ref o0_), .val (.ref o1_), .val (.int (1 : Int32))] [(.ref o0_), (.int (1 : Int32))])) rfl rfl (hb hby d9_11) _ ?_
    rw [len_of s9 z9]
    show Steps p.tables e below (s₁.setTop (mkF m 12 #[.val (.ref o0_), .val (.ref o1_), .val (.int (1 : Int32))] [(.int (7 : Int32)), (.int (1 : Int32))])) _
    refine XS.icmpNo X0.here hx rfl (hb hby d9_12) rfl (tlt (by decide : (1 : Int32) < (7 : Int32))).2.1 ?_
    show Steps p.tables e below (s₁.setTop (mkF m 15 #[.val (.ref o0_), .val (.ref o1_), .val (.int (1 : Int32))] [])) _
    refine XS.aloadN X0.here hx rfl (hb hby d9_15) rfl rfl ?_
    show Steps p.tables e below (s₁.setTop (mkF m 16 #[.val (.ref o0_), .val (.ref o1_), .val (.int (1 : Int32))] [(.ref o0_)])) _
    refine XS.iloadN X0.here hx rfl (hb hby d9_16) rfl ?_
    show Steps p.tables e below (s₁.setTop (mkF m 17 #[.val (.ref o0_), .val (.ref o1_), .val (.int (1 : Int32))] [(.int (1 : Int32)), (.ref o0_)])) _
    refine X0.baloadBytes hx (j := (1 : Int32)) (v := (.int (101 : Int32))) (by rw [e0]; exact r12.1) (State.isArrayOf_alike hZ.alike r12.2.1) r12.2.2 hin12 hat12 (g := (mkF m 17 #[.val (.ref o0_), .val (.ref o1_), .val (.int (1 : Int32))] [(.int (1 : Int32)), (.ref o0_)])) rfl rfl (hb hby d9_17) _ ?_
    show Steps p.tables e below (s₁.setTop (mkF m 18 #[.val (.ref o0_), .val (.ref o1_), .val (.int (1 : Int32))] [(.int (101 : Int32))])) _
    refine XS.aloadN X0.here hx rfl (hb hby d9_18) rfl rfl ?_
    show Steps p.tables e below (s₁.setTop (mkF m 19 #[.val (.ref o0_), .val (.ref o1_), .val (.int (1 : Int32))] [(.ref o1_), (.int (101 : Int32))])) _
    refine XS.iloadN X0.here hx rfl (hb hby d9_19) rfl ?_
    show Steps p.tables e below (s₁.setTop (mkF m 20 #[.val (.ref o0_), .val (.ref o1_), .val (.int (1 : Int32))] [(.int (1 : Int32)), (.ref o1_), (.int (101 : Int32))])) _
    refine X0.baloadBytes hx (j := (1 : Int32)) (v := (.int (101 : Int32))) (by rw [e0]; exact r13.1) (State.isArrayOf_alike hZ.alike r13.2.1) r13.2.2 hin13 hat13 (g := (mkF m 20 #[.val (.ref o0_), .val (.ref o1_), .val (.int (1 : Int32))] [(.int (1 : Int32)), (.ref o1_), (.int (101 : Int32))])) rfl rfl (hb hby d9_20) _ ?_
    show Steps p.tables e below (s₁.setTop (mkF m 21 #[.val (.ref o0_), .val (.ref o1_), .val (.int (1 : Int32))] [(.int (101 : Int32)), (.int (101 : Int32))])) _
    refine XS.icmpYes X0.here hx rfl (pc0 := 21) (pc' := 26) rfl (hb hby d9_21) rfl (teq (by decide : (101 : Int32) = (101 : Int32))).1 (by decide) (by decide) ?_
    show Steps p.tables e below (s₁.setTop (mkF m 26 #[.val (.ref o0_), .val (.ref o1_), .val (.int (1 : Int32))] [])) _
    refine XS.iinc X0.here hx rfl (hb hby d9_26) rfl (l' := #[.val (.ref o0_), .val (.ref o1_), .val (.int (2 : Int32))]) rfl ?_
    show Steps p.tables e below (s₁.setTop (mkF m 29 #[.val (.ref o0_), .val (.ref o1_), .val (.int (2 : Int32))] [])) _
    refine XS.goto X0.here hx rfl (pc0 := 29) (pc' := 9) rfl (hb hby d9_29) (by decide) (by decide) ?_
    show Steps p.tables e below (s₁.setTop (mkF m 9 #[.val (.ref o0_), .val (.ref o1_), .val (.int (2 : Int32))] [])) _
    refine XS.iloadN X0.here hx rfl (hb hby d9_9) rfl ?_
    show Steps p.tables e below (s₁.setTop (mkF m 10 #[.val (.ref o0_), .val (.ref o1_), .val (.int (2 : Int32))] [(.int (2 : Int32))])) _
    refine XS.aloadN X0.here hx rfl (hb hby d9_10) rfl rfl ?_
    show Steps p.tables e below (s₁.setTop (mkF m 11 #[.val (.ref o0_), .val (.ref o1_), .val (.int (2 : Int32))] [(.ref o0_), (.int (2 : Int32))])) _
    refine X0.arraylength hx (by rw [e0]; exact r14.1) (State.isArrayOf_alike hZ.alike r14.2.1) (g := (mkF m 11 #[.val (.ref o0_), .val (.ref o1_), .val (.int (2 : Int32))] [(.ref o0_), (.int (2 : Int32))])) rfl rfl (hb hby d9_11) _ ?_
    rw [len_of s14 z14]
    show Steps p.tables e below (s₁.setTop (mkF m 12 #[.val (.ref o0_), .val (.ref o1_), .val (.int (2 : Int32))] [(.int (7 : Int32)), (.int (2 : Int32))])) _
    refine XS.icmpNo X0.here hx rfl (hb hby d9_12) rfl (tlt (by decide : (2 : Int32) < (7 : Int32))).2.1 ?_
    show Steps p.tables e below (s₁.setTop (mkF m 15 #[.val (.ref o0_), .val (.ref o1_), .val (.int (2 : Int32))] [])) _
    refine XS.aloadN X0.here hx rfl (hb hby d9_15) rfl rfl ?_
    show Steps p.tables e below (s₁.setTop (mkF m 16 #[.val (.ref o0_), .val (.ref o1_), .val (.int (2 : Int32))] [(.ref o0_)])) _
    refine XS.iloadN X0.here hx rfl (hb hby d9_16) rfl ?_
    show Steps p.tables e below (s₁.setTop (mkF m 17 #[.val (.ref o0_), .val (.ref o1_), .val (.int (2 : Int32))] [(.int (2 : Int32)), (.ref o0_)])) _
    refine X0.baloadBytes hx (j := (2 : Int32)) (v := (.int (102 : Int32))) (by rw [e0]; exact r17.1) (State.isArrayOf_alike hZ.alike r17.2.1) r17.2.2 hin17 hat17 (g := (mkF m 17 #[.val (.ref o0_), .val (.ref o1_), .val (.int (2 : Int32))] [(.int (2 : Int32)), (.ref o0_)])) rfl rfl (hb hby d9_17) _ ?_
    show Steps p.tables e below (s₁.setTop (mkF m 18 #[.val (.ref o0_), .val (.ref o1_), .val (.int (2 : Int32))] [(.int (102 : Int32))])) _
    refine XS.aloadN X0.here hx rfl (hb hby d9_18) rfl rfl ?_
    show Steps p.tables e below (s₁.setTop (mkF m 19 #[.val (.ref o0_), .val (.ref o1_), .val (.int (2 : Int32))] [(.ref o1_), (.int (102 : Int32))])) _
    refine XS.iloadN X0.here hx rfl (hb hby d9_19) rfl ?_
    show Steps p.tables e below (s₁.setTop (mkF m 20 #[.val (.ref o0_), .val (.ref o1_), .val (.int (2 : Int32))] [(.int (2 : Int32)), (.ref o1_), (.int (102 : Int32))])) _
    refine X0.baloadBytes hx (j := (2 : Int32)) (v := (.int (102 : Int32))) (by rw [e0]; exact r18.1) (State.isArrayOf_alike hZ.alike r18.2.1) r18.2.2 hin18 hat18 (g := (mkF m 20 #[.val (.ref o0_), .val (.ref o1_), .val (.int (2 : Int32))] [(.int (2 : Int32)), (.ref o1_), (.int (102 : Int32))])) rfl rfl (hb hby d9_20) _ ?_
    show Steps p.tables e below (s₁.setTop (mkF m 21 #[.val (.ref o0_), .val (.ref o1_), .val (.int (2 : Int32))] [(.int (102 : Int32)), (.int (102 : Int32))])) _
    refine XS.icmpYes X0.here hx rfl (pc0 := 21) (pc' := 26) rfl (hb hby d9_21) rfl (teq (by decide : (102 : Int32) = (102 : Int32))).1 (by decide) (by decide) ?_
    show Steps p.tables e below (s₁.setTop (mkF m 26 #[.val (.ref o0_), .val (.ref o1_), .val (.int (2 : Int32))] [])) _
    refine XS.iinc X0.here hx rfl (hb hby d9_26) rfl (l' := #[.val (.ref o0_), .val (.ref o1_), .val (.int (3 : Int32))]) rfl ?_
    show Steps p.tables e below (s₁.setTop (mkF m 29 #[.val (.ref o0_), .val (.ref o1_), .val (.int (3 : Int32))] [])) _
    refine XS.goto X0.here hx rfl (pc0 := 29) (pc' := 9) rfl (hb hby d9_29) (by decide) (by decide) ?_
    show Steps p.tables e below (s₁.setTop (mkF m 9 #[.val (.ref o0_), .val (.ref o1_), .val (.int (3 : Int32))] [])) _
    refine XS.iloadN X0.here hx rfl (hb hby d9_9) rfl ?_
    show Steps p.tables e below (s₁.setTop (mkF m 10 #[.val (.ref o0_), .val (.ref o1_), .val (.int (3 : Int32))] [(.int (3 : Int32))])) _
    refine XS.aloadN X0.here hx rfl (hb hby d9_10) rfl rfl ?_
    show Steps p.tables e below (s₁.setTop (mkF m 11 #[.val (.ref o0_), .val (.ref o1_), .val (.int (3 : Int32))] [(.ref o0_), (.int (3 : Int32))])) _
    refine X0.arraylength hx (by rw [e0]; exact r19.1) (State.isArrayOf_alike hZ.alike r19.2.1) (g := (mkF m 11 #[.val (.ref o0_), .val (.ref o1_), .val (.int (3 : Int32))] [(.ref o0_), (.int (3 : Int32))])) rfl rfl (hb hby d9_11) _ ?_
    rw [len_of s19 z19]
    show Steps p.tables e below (s₁.setTop (mkF m 12 #[.val (.ref o0_), .val (.ref o1_), .val (.int (3 : Int32))] [(.int (7 : Int32)), (.int (3 : Int32))])) _
    refine XS.icmpNo X0.here hx rfl (hb hby d9_12) rfl (tlt (by decide : (3 : Int32) < (7 : Int32))).2.1 ?_
    show Steps p.tables e below (s₁.setTop (mkF m 15 #[.val (.ref o0_), .val (.ref o1_), .val (.int (3 : Int32))] [])) _
    refine XS.aloadN X0.here hx rfl (hb hby d9_15) rfl rfl ?_
    show Steps p.tables e below (s₁.setTop (mkF m 16 #[.val (.ref o0_), .val (.ref o1_), .val (.int (3 : Int32))] [(.ref o0_)])) _
    refine XS.iloadN X0.here hx rfl (hb hby d9_16) rfl ?_
    show Steps p.tables e below (s₁.setTop (mkF m 17 #[.val (.ref o0_), .val (.ref o1_), .val (.int (3 : Int32))] [(.int (3 : Int32)), (.ref o0_)])) _
    refine X0.baloadBytes hx (j := (3 : Int32)) (v := (.int (117 : Int32))) (by rw [e0]; exact r22.1) (State.isArrayOf_alike hZ.alike r22.2.1) r22.2.2 hin22 hat22 (g := (mkF m 17 #[.val (.ref o0_), .val (.ref o1_), .val (.int (3 : Int32))] [(.int (3 : Int32)), (.ref o0_)])) rfl rfl (hb hby d9_17) _ ?_
    show Steps p.tables e below (s₁.setTop (mkF m 18 #[.val (.ref o0_), .val (.ref o1_), .val (.int (3 : Int32))] [(.int (117 : Int32))])) _
    refine XS.aloadN X0.here hx rfl (hb hby d9_18) rfl rfl ?_
    show Steps p.tables e below (s₁.setTop (mkF m 19 #[.val (.ref o0_), .val (.ref o1_), .val (.int (3 : Int32))] [(.ref o1_), (.int (117 : Int32))])) _
    refine XS.iloadN X0.here hx rfl (hb hby d9_19) rfl ?_
    show Steps p.tables e below (s₁.setTop (mkF m 20 #[.val (.ref o0_), .val (.ref o1_), .val (.int (3 : Int32))] [(.int (3 : Int32)), (.ref o1_), (.int (117 : Int32))])) _
    refine X0.baloadBytes hx (j := (3 : Int32)) (v := (.int (117 : Int32))) (by rw [e0]; exact r23.1) (State.isArrayOf_alike hZ.alike r23.2.1) r23.2.2 hin23 hat23 (g := (mkF m 20 #[.val (.ref o0_), .val (.ref o1_), .val (.int (3 : Int32))] [(.int (3 : Int32)), (.ref o1_), (.int (117 : Int32))])) rfl rfl (hb hby d9_20) _ ?_
    show Steps p.tables e below (s₁.setTop (mkF m 21 #[.val (.ref o0_), .val (.ref o1_), .val (.int (3 : Int32))] [(.int (117 : Int32)), (.int (117 : Int32))])) _
    refine XS.icmpYes X0.here hx rfl (pc0 := 21) (pc' := 26) rfl (hb hby d9_21) rfl (teq (by decide : (117 : Int32) = (117 : Int32))).1 (by decide) (by decide) ?_
    show Steps p.tables e below (s₁.setTop (mkF m 26 #[.val (.ref o0_), .val (.ref o1_), .val (.int (3 : Int32))] [])) _
    refine XS.iinc X0.here hx rfl (hb hby d9_26) rfl (l' := #[.val (.ref o0_), .val (.ref o1_), .val (.int (4 : Int32))]) rfl ?_
    show Steps p.tables e below (s₁.setTop (mkF m 29 #[.val (.ref o0_), .val (.ref o1_), .val (.int (4 : Int32))] [])) _
    refine XS.goto X0.here hx rfl (pc0 := 29) (pc' := 9) rfl (hb hby d9_29) (by decide) (by decide) ?_
    show Steps p.tables e below (s₁.setTop (mkF m 9 #[.val (.ref o0_), .val (.ref o1_), .val (.int (4 : Int32))] [])) _
    refine XS.iloadN X0.here hx rfl (hb hby d9_9) rfl ?_
    show Steps p.tables e below (s₁.setTop (mkF m 10 #[.val (.ref o0_), .val (.ref o1_), .val (.int (4 : Int32))] [(.int (4 : Int32))])) _
    refine XS.aloadN X0.here hx rfl (hb hby d9_10) rfl rfl ?_
    show Steps p.tables e below (s₁.setTop (mkF m 11 #[.val (.ref o0_), .val (.ref o1_), .val (.int (4 : Int32))] [(.ref o0_), (.int (4 : Int32))])) _
    refine X0.arraylength hx (by rw [e0]; exact r24.1) (State.isArrayOf_alike hZ.alike r24.2.1) (g := (mkF m 11 #[.val (.ref o0_), .val (.ref o1_), .val (.int (4 : Int32))] [(.ref o0_), (.int (4 : Int32))])) rfl rfl (hb hby d9_11) _ ?_
    rw [len_of s24 z24]
    show Steps p.tables e below (s₁.setTop (mkF m 12 #[.val (.ref o0_), .val (.ref o1_), .val (.int (4 : Int32))] [(.int (7 : Int32)), (.int (4 : Int32))])) _
    refine XS.icmpNo X0.here hx rfl (hb hby d9_12) rfl (tlt (by decide : (4 : Int32) < (7 : Int32))).2.1 ?_
    show Steps p.tables e below (s₁.setTop (mkF m 15 #[.val (.ref o0_), .val (.ref o1_), .val (.int (4 : Int32))] [])) _
    refine XS.aloadN X0.here hx rfl (hb hby d9_15) rfl rfl ?_
    show Steps p.tables e below (s₁.setTop (mkF m 16 #[.val (.ref o0_), .val (.ref o1_), .val (.int (4 : Int32))] [(.ref o0_)])) _
    refine XS.iloadN X0.here hx rfl (hb hby d9_16) rfl ?_
    show Steps p.tables e below (s₁.setTop (mkF m 17 #[.val (.ref o0_), .val (.ref o1_), .val (.int (4 : Int32))] [(.int (4 : Int32)), (.ref o0_)])) _
    refine X0.baloadBytes hx (j := (4 : Int32)) (v := (.int (115 : Int32))) (by rw [e0]; exact r27.1) (State.isArrayOf_alike hZ.alike r27.2.1) r27.2.2 hin27 hat27 (g := (mkF m 17 #[.val (.ref o0_), .val (.ref o1_), .val (.int (4 : Int32))] [(.int (4 : Int32)), (.ref o0_)])) rfl rfl (hb hby d9_17) _ ?_
    show Steps p.tables e below (s₁.setTop (mkF m 18 #[.val (.ref o0_), .val (.ref o1_), .val (.int (4 : Int32))] [(.int (115 : Int32))])) _
    refine XS.aloadN X0.here hx rfl (hb hby d9_18) rfl rfl ?_
    show Steps p.tables e below (s₁.setTop (mkF m 19 #[.val (.ref o0_), .val (.ref o1_), .val (.int (4 : Int32))] [(.ref o1_), (.int (115 : Int32))])) _
    refine XS.iloadN X0.here hx rfl (hb hby d9_19) rfl ?_
    show Steps p.tables e below (s₁.setTop (mkF m 20 #[.val (.ref o0_), .val (.ref o1_), .val (.int (4 : Int32))] [(.int (4 : Int32)), (.ref o1_), (.int (115 : Int32))])) _
    refine X0.baloadBytes hx (j := (4 : Int32)) (v := (.int (115 : Int32))) (by rw [e0]; exact r28.1) (State.isArrayOf_alike hZ.alike r28.2.1) r28.2.2 hin28 hat28 (g := (mkF m 20 #[.val (.ref o0_), .val (.ref o1_), .val (.int (4 : Int32))] [(.int (4 : Int32)), (.ref o1_), (.int (115 : Int32))])) rfl rfl (hb hby d9_20) _ ?_
    show Steps p.tables e below (s₁.setTop (mkF m 21 #[.val (.ref o0_), .val (.ref o1_), .val (.int (4 : Int32))] [(.int (115 : Int32)), (.int (115 : Int32))])) _
    refine XS.icmpYes X0.here hx rfl (pc0 := 21) (pc' := 26) rfl (hb hby d9_21) rfl (teq (by decide : (115 : Int32) = (115 : Int32))).1 (by decide) (by decide) ?_
    show Steps p.tables e below (s₁.setTop (mkF m 26 #[.val (.ref o0_), .val (.ref o1_), .val (.int (4 : Int32))] [])) _
    refine XS.iinc X0.here hx rfl (hb hby d9_26) rfl (l' := #[.val (.ref o0_), .val (.ref o1_), .val (.int (5 : Int32))]) rfl ?_
    show Steps p.tables e below (s₁.setTop (mkF m 29 #[.val (.ref o0_), .val (.ref o1_), .val (.int (5 : Int32))] [])) _
    refine XS.goto X0.here hx rfl (pc0 := 29) (pc' := 9) rfl (hb hby d9_29) (by decide) (by decide) ?_
    show Steps p.tables e below (s₁.setTop (mkF m 9 #[.val (.ref o0_), .val (.ref o1_), .val (.int (5 : Int32))] [])) _
    refine XS.iloadN X0.here hx rfl (hb hby d9_9) rfl ?_
    show Steps p.tables e below (s₁.setTop (mkF m 10 #[.val (.ref o0_), .val (.ref o1_), .val (.int (5 : Int32))] [(.int (5 : Int32))])) _
    refine XS.aloadN X0.here hx rfl (hb hby d9_10) rfl rfl ?_
    show Steps p.tables e below (s₁.setTop (mkF m 11 #[.val (.ref o0_), .val (.ref o1_), .val (.int (5 : Int32))] [(.ref o0_), (.int (5 : Int32))])) _
    refine X0.arraylength hx (by rw [e0]; exact r29.1) (State.isArrayOf_alike hZ.alike r29.2.1) (g := (mkF m 11 #[.val (.ref o0_), .val (.ref o1_), .val (.int (5 : Int32))] [(.ref o0_), (.int (5 : Int32))])) rfl rfl (hb hby d9_11) _ ?_
    rw [len_of s29 z29]
    show Steps p.tables e below (s₁.setTop (mkF m 12 #[.val (.ref o0_), .val (.ref o1_), .val (.int (5 : Int32))] [(.int (7 : Int32)), (.int (5 : Int32))])) _
    refine XS.icmpNo X0.here hx rfl (hb hby d9_12) rfl (tlt (by decide : (5 : Int32) < (7 : Int32))).2.1 ?_
    show Steps p.tables e below (s₁.setTop (mkF m 15 #[.val (.ref o0_), .val (.ref o1_), .val (.int (5 : Int32))] [])) _
    refine XS.aloadN X0.here hx rfl (hb hby d9_15) rfl rfl ?_
    show Steps p.tables e below (s₁.setTop (mkF m 16 #[.val (.ref o0_), .val (.ref o1_), .val (.int (5 : Int32))] [(.ref o0_)])) _
    refine XS.iloadN X0.here hx rfl (hb hby d9_16) rfl ?_
    show Steps p.tables e below (s₁.setTop (mkF m 17 #[.val (.ref o0_), .val (.ref o1_), .val (.int (5 : Int32))] [(.int (5 : Int32)), (.ref o0_)])) _
    refine X0.baloadBytes hx (j := (5 : Int32)) (v := (.int (101 : Int32))) (by rw [e0]; exact r32.1) (State.isArrayOf_alike hZ.alike r32.2.1) r32.2.2 hin32 hat32 (g := (mkF m 17 #[.val (.ref o0_), .val (.ref o1_), .val (.int (5 : Int32))] [(.int (5 : Int32)), (.ref o0_)])) rfl rfl (hb hby d9_17) _ ?_
    show Steps p.tables e below (s₁.setTop (mkF m 18 #[.val (.ref o0_), .val (.ref o1_), .val (.int (5 : Int32))] [(.int (101 : Int32))])) _
    refine XS.aloadN X0.here hx rfl (hb hby d9_18) rfl rfl ?_
    show Steps p.tables e below (s₁.setTop (mkF m 19 #[.val (.ref o0_), .val (.ref o1_), .val (.int (5 : Int32))] [(.ref o1_), (.int (101 : Int32))])) _
    refine XS.iloadN X0.here hx rfl (hb hby d9_19) rfl ?_
    show Steps p.tables e below (s₁.setTop (mkF m 20 #[.val (.ref o0_), .val (.ref o1_), .val (.int (5 : Int32))] [(.int (5 : Int32)), (.ref o1_), (.int (101 : Int32))])) _
    refine X0.baloadBytes hx (j := (5 : Int32)) (v := (.int (101 : Int32))) (by rw [e0]; exact r33.1) (State.isArrayOf_alike hZ.alike r33.2.1) r33.2.2 hin33 hat33 (g := (mkF m 20 #[.val (.ref o0_), .val (.ref o1_), .val (.int (5 : Int32))] [(.int (5 : Int32)), (.ref o1_), (.int (101 : Int32))])) rfl rfl (hb hby d9_20) _ ?_
    show Steps p.tables e below (s₁.setTop (mkF m 21 #[.val (.ref o0_), .val (.ref o1_), .val (.int (5 : Int32))] [(.int (101 : Int32)), (.int (101 : Int32))])) _
    refine XS.icmpYes X0.here hx rfl (pc0 := 21) (pc' := 26) rfl (hb hby d9_21) rfl (teq (by decide : (101 : Int32) = (101 : Int32))).1 (by decide) (by decide) ?_
    show Steps p.tables e below (s₁.setTop (mkF m 26 #[.val (.ref o0_), .val (.ref o1_), .val (.int (5 : Int32))] [])) _
    refine XS.iinc X0.here hx rfl (hb hby d9_26) rfl (l' := #[.val (.ref o0_), .val (.ref o1_), .val (.int (6 : Int32))]) rfl ?_
    show Steps p.tables e below (s₁.setTop (mkF m 29 #[.val (.ref o0_), .val (.ref o1_), .val (.int (6 : Int32))] [])) _
    refine XS.goto X0.here hx rfl (pc0 := 29) (pc' := 9) rfl (hb hby d9_29) (by decide) (by decide) ?_
    show Steps p.tables e below (s₁.setTop (mkF m 9 #[.val (.ref o0_), .val (.ref o1_), .val (.int (6 : Int32))] [])) _
    refine XS.iloadN X0.here hx rfl (hb hby d9_9) rfl ?_
    show Steps p.tables e below (s₁.setTop (mkF m 10 #[.val (.ref o0_), .val (.ref o1_), .val (.int (6 : Int32))] [(.int (6 : Int32))])) _
    refine XS.aloadN X0.here hx rfl (hb hby d9_10) rfl rfl ?_
    show Steps p.tables e below (s₁.setTop (mkF m 11 #[.val (.ref o0_), .val (.ref o1_), .val (.int (6 : Int32))] [(.ref o0_), (.int (6 : Int32))])) _
    refine X0.arraylength hx (by rw [e0]; exact r34.1) (State.isArrayOf_alike hZ.alike r34.2.1) (g := (mkF m 11 #[.val (.ref o0_), .val (.ref o1_), .val (.int (6 : Int32))] [(.ref o0_), (.int (6 : Int32))])) rfl rfl (hb hby d9_11) _ ?_
    rw [len_of s34 z34]
    show Steps p.tables e below (s₁.setTop (mkF m 12 #[.val (.ref o0_), .val (.ref o1_), .val (.int (6 : Int32))] [(.int (7 : Int32)), (.int (6 : Int32))])) _
    refine XS.icmpNo X0.here hx rfl (hb hby d9_12) rfl (tlt (by decide : (6 : Int32) < (7 : Int32))).2.1 ?_
    show Steps p.tables e below (s₁.setTop (mkF m 15 #[.val (.ref o0_), .val (.ref o1_), .val (.int (6 : Int32))] [])) _
    refine XS.aloadN X0.here hx rfl (hb hby d9_15) rfl rfl ?_
    show Steps p.tables e below (s₁.setTop (mkF m 16 #[.val (.ref o0_), .val (.ref o1_), .val (.int (6 : Int32))] [(.ref o0_)])) _
    refine XS.iloadN X0.here hx rfl (hb hby d9_16) rfl ?_
    show Steps p.tables e below (s₁.setTop (mkF m 17 #[.val (.ref o0_), .val (.ref o1_), .val (.int (6 : Int32))] [(.int (6 : Int32)), (.ref o0_)])) _
    refine X0.baloadBytes hx (j := (6 : Int32)) (v := (.int (100 : Int32))) (by rw [e0]; exact r37.1) (State.isArrayOf_alike hZ.alike r37.2.1) r37.2.2 hin37 hat37 (g := (mkF m 17 #[.val (.ref o0_), .val (.ref o1_), .val (.int (6 : Int32))] [(.int (6 : Int32)), (.ref o0_)])) rfl rfl (hb hby d9_17) _ ?_
    show Steps p.tables e below (s₁.setTop (mkF m 18 #[.val (.ref o0_), .val (.ref o1_), .val (.int (6 : Int32))] [(.int (100 : Int32))])) _
    refine XS.aloadN X0.here hx rfl (hb hby d9_18) rfl rfl ?_
    show Steps p.tables e below (s₁.setTop (mkF m 19 #[.val (.ref o0_), .val (.ref o1_), .val (.int (6 : Int32))] [(.ref o1_), (.int (100 : Int32))])) _
    refine XS.iloadN X0.here hx rfl (hb hby d9_19) rfl ?_
    show Steps p.tables e below (s₁.setTop (mkF m 20 #[.val (.ref o0_), .val (.ref o1_), .val (.int (6 : Int32))] [(.int (6 : Int32)), (.ref o1_), (.int (100 : Int32))])) _
    refine X0.baloadBytes hx (j := (6 : Int32)) (v := (.int (100 : Int32))) (by rw [e0]; exact r38.1) (State.isArrayOf_alike hZ.alike r38.2.1) r38.2.2 hin38 hat38 (g := (mkF m 20 #[.val (.ref o0_), .val (.ref o1_), .val (.int (6 : Int32))] [(.int (6 : Int32)), (.ref o1_), (.int (100 : Int32))])) rfl rfl (hb hby d9_20) _ ?_
    show Steps p.tables e below (s₁.setTop (mkF m 21 #[.val (.ref o0_), .val (.ref o1_), .val (.int (6 : Int32))] [(.int (100 : Int32)), (.int (100 : Int32))])) _
    refine XS.icmpYes X0.here hx rfl (pc0 := 21) (pc' := 26) rfl (hb hby d9_21) rfl (teq (by decide : (100 : Int32) = (100 : Int32))).1 (by decide) (by decide) ?_
    show Steps p.tables e below (s₁.setTop (mkF m 26 #[.val (.ref o0_), .val (.ref o1_), .val (.int (6 : Int32))] [])) _
    refine XS.iinc X0.here hx rfl (hb hby d9_26) rfl (l' := #[.val (.ref o0_), .val (.ref o1_), .val (.int (7 : Int32))]) rfl ?_
    show Steps p.tables e below (s₁.setTop (mkF m 29 #[.val (.ref o0_), .val (.ref o1_), .val (.int (7 : Int32))] [])) _
    refine XS.goto X0.here hx rfl (pc0 := 29) (pc' := 9) rfl (hb hby d9_29) (by decide) (by decide) ?_
    show Steps p.tables e below (s₁.setTop (mkF m 9 #[.val (.ref o0_), .val (.ref o1_), .val (.int (7 : Int32))] [])) _
    refine XS.iloadN X0.here hx rfl (hb hby d9_9) rfl ?_
    show Steps p.tables e below (s₁.setTop (mkF m 10 #[.val (.ref o0_), .val (.ref o1_), .val (.int (7 : Int32))] [(.int (7 : Int32))])) _
    refine XS.aloadN X0.here hx rfl (hb hby d9_10) rfl rfl ?_
    show Steps p.tables e below (s₁.setTop (mkF m 11 #[.val (.ref o0_), .val (.ref o1_), .val (.int (7 : Int32))] [(.ref o0_), (.int (7 : Int32))])) _
    refine X0.arraylength hx (by rw [e0]; exact r39.1) (State.isArrayOf_alike hZ.alike r39.2.1) (g := (mkF m 11 #[.val (.ref o0_), .val (.ref o1_), .val (.int (7 : Int32))] [(.ref o0_), (.int (7 : Int32))])) rfl rfl (hb hby d9_11) _ ?_
    rw [len_of s39 z39]
    show Steps p.tables e below (s₁.setTop (mkF m 12 #[.val (.ref o0_), .val (.ref o1_), .val (.int (7 : Int32))] [(.int (7 : Int32)), (.int (7 : Int32))])) _
    refine XS.icmpYes X0.here hx rfl (pc0 := 12) (pc' := 32) rfl (hb hby d9_12) rfl (flt (by decide : ¬ ((7 : Int32) < (7 : Int32)))).2.1 (by decide) (by decide) ?_
    show Steps p.tables e below (s₁.setTop (mkF m 32 #[.val (.ref o0_), .val (.ref o1_), .val (.int (7 : Int32))] [])) _
    refine XS.iconst X0.here hx rfl (hb hby d9_32) ?_
    exact kt
  obtain ⟨fs, hr, hrun, hended, hW, hsame⟩ := X0.leave (v := some (.int (1 : Int32))) (fun h => by rw [Bd.returns] at h; cases h)
  refine ⟨_, _, pre41 _ (retN X0 hx (t := .boolean) Bd.returns (by simp) (hb hby d9_33) hr), hrun, hended, _, _, rfl, ?_, ⟨_, rfl⟩, hW, hsame.mono (by decide) (by decide)⟩
  show Qequals26 Z o0_ o1_ ko0_ ko1_ h0 n0 _ s₁.heap _
  rw [e0]
  exact ⟨rfl, N0, rfl⟩
theorem efequals25 (m : MethodId) (o0_ : Addr) (o1_ : Addr) : entryFrame m #[(.ref o0_), (.ref o1_)] 3 = mkF m 0 #[.val (.ref o0_), .val (.ref o1_), .unset] [] := by first | (simp [entryFrame, mkF, argsToLocals, Value.category]; done) | rfl
def Qequals25 (Z : State) (o0_ : Addr) (o1_ : Addr) (o2_ : Addr) (o3_ : Addr) (ko2_ : ClassId) (ko3_ : ClassId) (x0_ : Int32) (h0 : Heap) (n0 : Nat) (v : Option Value) (h : Heap) (L : List Loc) : Prop := v = some (.int (1 : Int32)) ∧ Fr n0 L ∧ h = h0
set_option maxRecDepth 65536 in
set_option maxHeartbeats 40000000 in
theorem rmequals25 (l : Launch) (Z : State) (a0 : Array Value) (hw : ∀ d ∈ tables_1, d.before a0 Z = true) (ws : List Jvm.Cond) (o0_ : Addr) (o1_ : Addr) (o2_ : Addr) (o3_ : Addr) (ko2_ : ClassId) (ko3_ : ClassId) (x0_ : Int32) (h0 : Heap) (n0 : Nat) (O0 : Old Z n0 h0) (P0 : Exa Z Z.heap o0_ "java/lang/String") (P1 : Fld Z Z.heap o0_ "java/lang/String" "value" "[B" (.ref o2_)) (P2 : Fld Z Z.heap o0_ "java/lang/String" "coder" "B" (.int (0 : Int32))) (P3 : Exa Z h0 o1_ "java/lang/String") (P4 : Fld Z h0 o1_ "java/lang/String" "coder" "B" (.int (0 : Int32))) (P5 : Fld Z h0 o1_ "java/lang/String" "value" "[B" (.ref o3_)) (P6 : Arv Z Z.heap o2_ ko2_ .byte (7 : Int32) [(.int (114 : Int32)), (.int (101 : Int32)), (.int (102 : Int32)), (.int (117 : Int32)), (.int (115 : Int32)), (.int (101 : Int32)), (.int (100 : Int32))] (.int (0 : Int32))) (P7 : Arv Z h0 o3_ ko3_ .byte (7 : Int32) [(.int (114 : Int32)), (.int (101 : Int32)), (.int (102 : Int32)), (.int (117 : Int32)), (.int (115 : Int32)), (.int (101 : Int32)), (.int (100 : Int32))] (.int (0 : Int32))) (P8 : Exa Z h0 o3_ "[B") (P9 : n0 ≤ o1_) (P10 : ¬ (x0_ = (0 : Int32))) (P11 : Sta Z Z.heap "java/lang/String" "COMPACT_STRINGS" "Z" (.int x0_)) :
    MetFree l (⟨"java/lang/String", "equals", "(Ljava/lang/Object;)Z"⟩ : MethodName) (head1 (Jvm.Cond.code (⟨"java/lang/String", "equals", "(Ljava/lang/Object;)Z"⟩ : MethodName) jdk_42_method_66_code 3 (some .boolean) :: ws) ({ frames := 1, cells := 0, slots := 0, locals := 14 } : Room)) (fun a U => a = #[(.ref o0_), (.ref o1_)] ∧ Z.Warmed39 U.vm ∧ U.heap = h0) (fun _ _ _ _ _ => True) (fun _ U o U' => ∃ v L, o = .returned v ∧ Qequals25 Z o0_ o1_ o2_ o3_ ko2_ ko3_ x0_ h0 n0 v U'.heap L ∧ FrameEnd U o U' L ({ frames := 1, cells := 0, slots := 0, locals := 14 } : Room).cells ({ frames := 1, cells := 0, slots := 0, locals := 14 } : Room).slots) := by
  refine MetFree.of_bodySF (plainFor_of_name pn_1) hisR ?_
  intro p e s m args below meth c s₁ Bd hml0 hP hK
  obtain ⟨rfl, hZ, hh⟩ := hP
  have hx := Bd.exec
  have hby := Bd.bytes
  have hml : c.maxLocals = 3 := hml0
  have hown : s.vm.findClass "java/lang/String" = some m.cls := findClass_of_methodNamed Bd.named
  have hnm := (name_of_methodNamed Bd.named Bd.method).1
  have X0 : Stand p l e ({ frames := 1, cells := 0, slots := 0, locals := 14 } : Room) s m #[(.ref o0_), (.ref o1_)] below meth c s₁ [] 0 0 := Stand.of_body Bd
  have e0 : s₁.heap = h0 := by rw [← hh, Bd.state]; rfl
  have N0 := Fr.nil n0
  have pre0 : ∀ t, Steps p.tables e below (s₁.setTop (mkF m 0 #[.val (.ref o0_), .val (.ref o1_), .unset] [])) t → Steps p.tables e below (s₁.setTop (entryFrame m #[(.ref o0_), (.ref o1_)] 3)) t := fun t k => castTop (efequals25 m o0_ o1_) k
  have K0 : Keep h0 h0 [] := Keep.refl _ _
  have ne1 : o0_ ≠ o1_ := O0.ne P0.lt P9
  obtain ⟨T2, X2, e2, st2⟩ := instY X0 hx hZ hown (hw _ (List.mem_of_getElem? (i := 61) rfl)) e0 (Ins.self P3) (g := (mkF m 8 #[.val (.ref o0_), .val (.ref o1_), .unset] [(.ref o1_)])) rfl rfl (hb hby d8_8)
  obtain ⟨T3, X3, e3, st3⟩ := castY X2 hx hZ hown (hw _ (List.mem_of_getElem? (i := 61) rfl)) e2 (Ins.self P3) (g := (mkF m 15 #[.val (.ref o0_), .val (.ref o1_), .unset] [(.ref o1_)])) rfl rfl (hb hby d8_15)
  obtain ⟨T4, X4, e4, st4⟩ := getS2 X3 hx hZ hown (host := "") (Or.inl (hw _ (List.mem_of_getElem? (i := 18) rfl))) Via.refl e3 (P11.ext O0.2) (g := (mkF m 19 #[.val (.ref o0_), .val (.ref o1_), .val (.ref o1_)] [])) rfl (hb hby d8_19)
  have f5 : Fld Z h0 o0_ "java/lang/String" "coder" "B" (.int (0 : Int32)) := P2.ext O0.2
  obtain ⟨T6, X6, e6, st6⟩ := getF X4 hx hZ hown (host := "") (Or.inl (hw _ (List.mem_of_getElem? (i := 30) rfl))) Via.refl e4 f5 (g := (mkF m 26 #[.val (.ref o0_), .val (.ref o1_), .val (.ref o1_)] [(.ref o0_)])) rfl rfl (hb hby d8_26)
  obtain ⟨T7, X7, e7, st7⟩ := getF X6 hx hZ hown (host := "") (Or.inl (hw _ (List.mem_of_getElem? (i := 30) rfl))) Via.refl e6 P4 (g := (mkF m 30 #[.val (.ref o0_), .val (.ref o1_), .val (.ref o1_)] [(.ref o1_), (.int (0 : Int32))])) rfl rfl (hb hby d8_30)
  have f8 : Fld Z h0 o0_ "java/lang/String" "value" "[B" (.ref o2_) := P1.ext O0.2
  obtain ⟨T9, X9, e9, st9⟩ := getF X7 hx hZ hown (host := "") (Or.inl (hw _ (List.mem_of_getElem? (i := 32) rfl))) Via.refl e7 f8 (g := (mkF m 37 #[.val (.ref o0_), .val (.ref o1_), .val (.ref o1_)] [(.ref o0_)])) rfl rfl (hb hby d8_37)
  obtain ⟨T10, X10, e10, st10⟩ := getF X9 hx hZ hown (host := "") (Or.inl (hw _ (List.mem_of_getElem? (i := 32) rfl))) Via.refl e9 P5 (g := (mkF m 41 #[.val (.ref o0_), .val (.ref o1_), .val (.ref o1_)] [(.ref o1_), (.ref o2_)])) rfl rfl (hb hby d8_41)
  obtain ⟨_, _, ⟨T11, L11, k11, n11⟩, -, X11, ⟨Lc11, hQ11, l11, y11, z11⟩, st11⟩ := Jvm.LawKit.callS X10 hx (y := (⟨"java/lang/StringLatin1", "equals", "([B[B)Z"⟩ : MethodName)) hown (mvT hZ (hw _ (List.mem_of_getElem? (i := 62) rfl))) (mvT hZ (hw _ (List.mem_of_getElem? (i := 63) rfl))) (mvT hZ (hw _ (List.mem_of_getElem? (i := 64) rfl))) (mvT hZ (hw _ (List.mem_of_getElem? (i := 65) rfl))) (by decide) (backOf (W := 0) (rmequals26 l Z a0 hw [] o2_ o3_ ko2_ ko3_ h0 n0 O0 P6 P7 P8) hZ (hw _ (List.mem_of_getElem? (i := 65) rfl)) (hw _ (List.mem_of_getElem? (i := 64) rfl)) (by decide) (by decide)) (g := (mkF m 44 #[.val (.ref o0_), .val (.ref o1_), .val (.ref o1_)] [(.ref o3_), (.ref o2_)])) rfl (by rw [hml]; rfl) (argsL := [(.ref o2_), (.ref o3_)]) (rest := []) (lenOf pd_6 rfl) rfl (by show 2 * 0 + _ ≤ _; exact Nat.le_of_eq rfl) (hb hby d8_44) (fun _ _ => ⟨rfl, e10, (by decide : 0 + 0 ≤ _), (by decide : 0 + 0 ≤ _)⟩)
  dsimp only [Pt.U, Pt.locs, Pt.cells, Pt.slots] at X11 l11 y11 z11 st11 hQ11
  subst l11 y11 z11
  obtain ⟨h11, e11⟩ : ∃ z, T11.heap = z := ⟨_, rfl⟩
  rw [e11] at hQ11
  obtain ⟨rfl, N11q, hh11⟩ := hQ11
  have N12 := Fr.app N0 N11q
  have e11' : T11.heap = h0 := e11.trans hh11
  have pre13 : ∀ t, Steps p.tables e below (T11.setTop (mkF m 55 #[.val (.ref o0_), .val (.ref o1_), .val (.ref o1_)] [(.int (1 : Int32))])) t → Steps p.tables e below (s₁.setTop (entryFrame m #[(.ref o0_), (.ref o1_)] 3)) t := by
    intro t kt
    refine pre0 t ?_
    show Steps p.tables e below (s₁.setTop (mkF m 0 #[.val (.ref o0_), .val (.ref o1_), .unset] [])) _
    refine XS.aloadN X0.here hx rfl (hb hby d8_0) rfl rfl ?_
    show Steps p.tables e below (s₁.setTop (mkF m 1 #[.val (.ref o0_), .val (.ref o1_), .unset] [(.ref o0_)])) _
    refine XS.aloadN X0.here hx rfl (hb hby d8_1) rfl rfl ?_
    show Steps p.tables e below (s₁.setTop (mkF m 2 #[.val (.ref o0_), .val (.ref o1_), .unset] [(.ref o1_), (.ref o0_)])) _
    refine Jvm.RoadKit.acmp (g := (mkF m 2 #[.val (.ref o0_), .val (.ref o1_), .unset] [(.ref o1_), (.ref o0_)])) X0 hx rfl rfl rfl (pc0 := 2) (pc' := 7) (same := false) rfl (hb hby d8_2) rfl (decide_eq_false fun q => ne1 (Value.ref.inj q)) (by decide) (by decide) ?_
    show Steps p.tables e below (s₁.setTop (mkF m 7 #[.val (.ref o0_), .val (.ref o1_), .unset] [])) _
    refine XS.aloadN X0.here hx rfl (hb hby d8_7) rfl rfl ?_
    show Steps p.tables e below (s₁.setTop (mkF m 8 #[.val (.ref o0_), .val (.ref o1_), .unset] [(.ref o1_)])) _
    refine st2 _ ?_
    show Steps p.tables e below (T2.setTop (mkF m 11 #[.val (.ref o0_), .val (.ref o1_), .unset] [(.int (1 : Int32))])) _
    refine XS.ifNo X2.here hx rfl (hb hby d8_11) rfl ((if0 _ _).trans (feq (by decide : ¬ ((1 : Int32) = (0 : Int32)))).1) ?_
    show Steps p.tables e below (T2.setTop (mkF m 14 #[.val (.ref o0_), .val (.ref o1_), .unset] [])) _
    refine XS.aloadN X2.here hx rfl (hb hby d8_14) rfl rfl ?_
    show Steps p.tables e below (T2.setTop (mkF m 15 #[.val (.ref o0_), .val (.ref o1_), .unset] [(.ref o1_)])) _
    refine st3 _ ?_
    show Steps p.tables e below (T3.setTop (mkF m 18 #[.val (.ref o0_), .val (.ref o1_), .unset] [(.ref o1_)])) _
    refine XS.astoreN X3.here hx rfl (hb hby d8_18) rfl rfl (l' := #[.val (.ref o0_), .val (.ref o1_), .val (.ref o1_)]) rfl ?_
    show Steps p.tables e below (T3.setTop (mkF m 19 #[.val (.ref o0_), .val (.ref o1_), .val (.ref o1_)] [])) _
    refine st4 _ ?_
    show Steps p.tables e below (T4.setTop (mkF m 22 #[.val (.ref o0_), .val (.ref o1_), .val (.ref o1_)] [(.int x0_)])) _
    refine XS.ifNo X4.here hx rfl (hb hby d8_22) rfl ((if0 _ _).trans (feq P10).1) ?_
    show Steps p.tables e below (T4.setTop (mkF m 25 #[.val (.ref o0_), .val (.ref o1_), .val (.ref o1_)] [])) _
    refine XS.aloadN X4.here hx rfl (hb hby d8_25) rfl rfl ?_
    show Steps p.tables e below (T4.setTop (mkF m 26 #[.val (.ref o0_), .val (.ref o1_), .val (.ref o1_)] [(.ref o0_)])) _
    refine st6 _ ?_
    show Steps p.tables e below (T6.setTop (mkF m 29 #[.val (.ref o0_), .val (.ref o1_), .val (.ref o1_)] [(.int (0 : Int32))])) _
    refine XS.aloadN X6.here hx rfl (hb hby d8_29) rfl rfl ?_
    show Steps p.tables e below (T6.setTop (mkF m 30 #[.val (.ref o0_), .val (.ref o1_), .val (.ref o1_)] [(.ref o1_), (.int (0 : Int32))])) _
    refine st7 _ ?_
    show Steps p.tables e below (T7.setTop (mkF m 33 #[.val (.ref o0_), .val (.ref o1_), .val (.ref o1_)] [(.int (0 : Int32)), (.int (0 : Int32))])) _
    refine XS.icmpNo X7.here hx rfl (hb hby d8_33) rfl (teq (by decide : (0 : Int32) = (0 : Int32))).2 ?_
    show Steps p.tables e below (T7.setTop (mkF m 36 #[.val (.ref o0_), .val (.ref o1_), .val (.ref o1_)] [])) _
    refine XS.aloadN X7.here hx rfl (hb hby d8_36) rfl rfl ?_
    show Steps p.tables e below (T7.setTop (mkF m 37 #[.val (.ref o0_), .val (.ref o1_), .val (.ref o1_)] [(.ref o0_)])) _
    refine st9 _ ?_
    show Steps p.tables e below (T9.setTop (mkF m 40 #[.val (.ref o0_), .val (.ref o1_), .val (.ref o1_)] [(.ref o2_)])) _
    refine XS.aloadN X9.here hx rfl (hb hby d8_40) rfl rfl ?_
    show Steps p.tables e below (T9.setTop (mkF m 41 #[.val (.ref o0_), .val (.ref o1_), .val (.ref o1_)] [(.ref o1_), (.ref o2_)])) _
    refine st10 _ ?_
    show Steps p.tables e below (T10.setTop (mkF m 44 #[.val (.ref o0_), .val (.ref o1_), .val (.ref o1_)] [(.ref o3_), (.ref o2_)])) _
    refine st11 _ ?_
    show Steps p.tables e below (T11.setTop (mkF m 47 #[.val (.ref o0_), .val (.ref o1_), .val (.ref o1_)] [(.int (1 : Int32))])) _
    refine XS.ifNo X11.here hx rfl (hb hby d8_47) rfl ((if0 _ _).trans (feq (by decide : ¬ ((1 : Int32) = (0 : Int32)))).1) ?_
    show Steps p.tables e below (T11.setTop (mkF m 50 #[.val (.ref o0_), .val (.ref o1_), .val (.ref o1_)] [])) _
    refine XS.iconst X11.here hx rfl (hb hby d8_50) ?_
    show Steps p.tables e below (T11.setTop (mkF m 51 #[.val (.ref o0_), .val (.ref o1_), .val (.ref o1_)] [(.int (1 : Int32))])) _
    refine XS.goto X11.here hx rfl (pc0 := 51) (pc' := 55) rfl (hb hby d8_51) (by decide) (by decide) ?_
    exact kt
  obtain ⟨fs, hr, hrun, hended, hW, hsame⟩ := X11.leave (v := some (.int (1 : Int32))) (fun h => by rw [Bd.returns] at h; cases h)
  refine ⟨_, _, pre13 _ (retN X11 hx (t := .boolean) Bd.returns (by simp) (hb hby d8_55) hr), hrun, hended, _, _, rfl, ?_, ⟨_, rfl⟩, hW, hsame.mono (by decide) (by decide)⟩
  show Qequals25 Z o0_ o1_ o2_ o3_ ko2_ ko3_ x0_ h0 n0 _ T11.heap _
  rw [e11']
  exact ⟨rfl, N12, rfl⟩
theorem efof20 (m : MethodId) (o0_ : Addr) : entryFrame m #[(.ref o0_)] 5 = mkF m 0 #[.val (.ref o0_), .unset, .unset, .unset, .unset] [] := by first | (simp [entryFrame, mkF, argsToLocals, Value.category]; done) | rfl
def Qof20 (Z : State) (o0_ : Addr) (o1_ : Addr) (ko1_ : ClassId) (o2_ : Addr) (ko2_ : ClassId) (o3_ : Addr) (o4_ : Addr) (o5_ : Addr) (o6_ : Addr) (o7_ : Addr) (o8_ : Addr) (o9_ : Addr) (o10_ : Addr) (o11_ : Addr) (ko9_ : ClassId) (ko10_ : ClassId) (ko11_ : ClassId) (x0_ : Int32) (h0 : Heap) (n0 : Nat) (v : Option Value) (h : Heap) (L : List Loc) : Prop := v = some (.ref o4_) ∧ Fr n0 L ∧ Keep h0 h []
set_option maxRecDepth 65536 in
set_option maxHeartbeats 40000000 in
theorem rmof20 (l : Launch) (Z : State) (a0 : Array Value) (hw : ∀ d ∈ tables_1, d.before a0 Z = true) (ws : List Jvm.Cond) (o0_ : Addr) (o1_ : Addr) (ko1_ : ClassId) (o2_ : Addr) (ko2_ : ClassId) (o3_ : Addr) (o4_ : Addr) (o5_ : Addr) (o6_ : Addr) (o7_ : Addr) (o8_ : Addr) (o9_ : Addr) (o10_ : Addr) (o11_ : Addr) (ko9_ : ClassId) (ko10_ : ClassId) (ko11_ : ClassId) (x0_ : Int32) (h0 : Heap) (n0 : Nat) (O0 : Old Z n0 h0) (P0 : Exa Z h0 o0_ "java/lang/String") (P1 : Fld Z h0 o0_ "java/lang/String" "coder" "B" (.int (0 : Int32))) (P2 : Fld Z h0 o0_ "java/lang/String" "value" "[B" (.ref o1_)) (P3 : Arv Z h0 o1_ ko1_ .byte (7 : Int32) [(.int (114 : Int32)), (.int (101 : Int32)), (.int (102 : Int32)), (.int (117 : Int32)), (.int (115 : Int32)), (.int (101 : Int32)), (.int (100 : Int32))] (.int (0 : Int32))) (P4 : Exa Z h0 o1_ "[B") (P5 : Exa Z Z.heap o2_ "[Lcom/example/aeacus/aeacus/log/Outcome;") (P6 : Arv Z Z.heap o2_ ko2_ (.object "com/example/aeacus/aeacus/log/Outcome") (3 : Int32) [(.ref o3_), (.ref o4_), (.ref o5_)] .null) (P7 : Exa Z Z.heap o3_ "com/example/aeacus/aeacus/log/Outcome") (P8 : Fld Z Z.heap o3_ "com/example/aeacus/aeacus/log/Outcome" "label" "Ljava/lang/String;" (.ref o6_)) (P9 : Exa Z Z.heap o4_ "com/example/aeacus/aeacus/log/Outcome") (P10 : Fld Z Z.heap o4_ "com/example/aeacus/aeacus/log/Outcome" "label" "Ljava/lang/String;" (.ref o7_)) (P11 : Exa Z Z.heap o5_ "com/example/aeacus/aeacus/log/Outcome") (P12 : Fld Z Z.heap o5_ "com/example/aeacus/aeacus/log/Outcome" "label" "Ljava/lang/String;" (.ref o8_)) (P13 : Exa Z Z.heap o6_ "java/lang/String") (P14 : Fld Z Z.heap o6_ "java/lang/String" "value" "[B" (.ref o9_)) (P15 : Fld Z Z.heap o6_ "java/lang/String" "coder" "B" (.int (0 : Int32))) (P16 : Exa Z Z.heap o7_ "java/lang/String") (P17 : Fld Z Z.heap o7_ "java/lang/String" "value" "[B" (.ref o10_)) (P18 : Fld Z Z.heap o7_ "java/lang/String" "coder" "B" (.int (0 : Int32))) (P19 : Exa Z Z.heap o8_ "java/lang/String") (P20 : Fld Z Z.heap o8_ "java/lang/String" "value" "[B" (.ref o11_)) (P21 : Fld Z Z.heap o8_ "java/lang/String" "coder" "B" (.int (0 : Int32))) (P22 : Arv Z Z.heap o9_ ko9_ .byte (7 : Int32) [(.int (103 : Int32)), (.int (114 : Int32)), (.int (97 : Int32)), (.int (110 : Int32)), (.int (116 : Int32)), (.int (101 : Int32)), (.int (100 : Int32))] (.int (0 : Int32))) (P23 : Arv Z Z.heap o10_ ko10_ .byte (7 : Int32) [(.int (114 : Int32)), (.int (101 : Int32)), (.int (102 : Int32)), (.int (117 : Int32)), (.int (115 : Int32)), (.int (101 : Int32)), (.int (100 : Int32))] (.int (0 : Int32))) (P24 : Arv Z Z.heap o11_ ko11_ .byte (6 : Int32) [(.int (102 : Int32)), (.int (97 : Int32)), (.int (105 : Int32)), (.int (108 : Int32)), (.int (101 : Int32)), (.int (100 : Int32))] (.int (0 : Int32))) (P25 : Sta Z Z.heap "com/example/aeacus/aeacus/log/Outcome" "$VALUES" "[Lcom/example/aeacus/aeacus/log/Outcome;" (.ref o2_)) (P26 : ¬ (x0_ = (0 : Int32))) (P27 : Sta Z Z.heap "java/lang/String" "COMPACT_STRINGS" "Z" (.int x0_)) (P28 : n0 ≤ o0_) :
    MetFree l (⟨"com/example/aeacus/aeacus/log/Outcome", "of", "(Ljava/lang/String;)Lcom/example/aeacus/aeacus/log/Outcome;"⟩ : MethodName) (head1 (Jvm.Cond.code (⟨"com/example/aeacus/aeacus/log/Outcome", "of", "(Ljava/lang/String;)Lcom/example/aeacus/aeacus/log/Outcome;"⟩ : MethodName) prog_29_method_5_code 5 (some (.object "com/example/aeacus/aeacus/log/Outcome")) :: ws) ({ frames := 2, cells := 1, slots := 3, locals := 28 } : Room)) (fun a U => a = #[(.ref o0_)] ∧ Z.Warmed39 U.vm ∧ U.heap = h0) (fun _ _ _ _ _ => True) (fun _ U o U' => ∃ v L, o = .returned v ∧ Qof20 Z o0_ o1_ ko1_ o2_ ko2_ o3_ o4_ o5_ o6_ o7_ o8_ o9_ o10_ o11_ ko9_ ko10_ ko11_ x0_ h0 n0 v U'.heap L ∧ FrameEnd U o U' L ({ frames := 2, cells := 1, slots := 3, locals := 28 } : Room).cells ({ frames := 2, cells := 1, slots := 3, locals := 28 } : Room).slots) := by
  refine MetFree.of_bodySF (plainFor_of_name pn_2) hisR ?_
  intro p e s m args below meth c s₁ Bd hml0 hP hK
  obtain ⟨rfl, hZ, hh⟩ := hP
  have hx := Bd.exec
  have hby := Bd.bytes
  have hml : c.maxLocals = 5 := hml0
  have hown : s.vm.findClass "com/example/aeacus/aeacus/log/Outcome" = some m.cls := findClass_of_methodNamed Bd.named
  have hnm := (name_of_methodNamed Bd.named Bd.method).1
  have X0 : Stand p l e ({ frames := 2, cells := 1, slots := 3, locals := 28 } : Room) s m #[(.ref o0_)] below meth c s₁ [] 0 0 := Stand.of_body Bd
  have e0 : s₁.heap = h0 := by rw [← hh, Bd.state]; rfl
  have N0 := Fr.nil n0
  have pre0 : ∀ t, Steps p.tables e below (s₁.setTop (mkF m 0 #[.val (.ref o0_), .unset, .unset, .unset, .unset] [])) t → Steps p.tables e below (s₁.setTop (entryFrame m #[(.ref o0_)] 5)) t := fun t k => castTop (efof20 m o0_) k
  have K0 : Keep h0 h0 [] := Keep.refl _ _
  obtain ⟨_, _, ⟨T1, L1, k1, n1⟩, -, X1, ⟨Lc1, hQ1, l1, y1, z1⟩, st1⟩ := Jvm.LawKit.callS X0 hx (y := (⟨"com/example/aeacus/aeacus/log/Outcome", "values", "()[Lcom/example/aeacus/aeacus/log/Outcome;"⟩ : MethodName)) hown (mvT hZ (hw _ (List.mem_of_getElem? (i := 37) rfl))) (mvT hZ (hw _ (List.mem_of_getElem? (i := 38) rfl))) (mvT hZ (hw _ (List.mem_of_getElem? (i := 2) rfl))) (mvT hZ (hw _ (List.mem_of_getElem? (i := 39) rfl))) (by decide) (backOf (W := 0) (rmvalues9 l Z a0 hw [] o2_ ko2_ o3_ o4_ o5_ o6_ o7_ o8_ o9_ o10_ o11_ ko9_ ko10_ ko11_ h0 n0 O0 P5 P6 P7 P8 P9 P10 P11 P12 P13 P14 P15 P16 P17 P18 P19 P20 P21 P22 P23 P24 P25) hZ (hw _ (List.mem_of_getElem? (i := 39) rfl)) (hw _ (List.mem_of_getElem? (i := 2) rfl)) (by decide) (by decide)) (g := (mkF m 0 #[.val (.ref o0_), .unset, .unset, .unset, .unset] [])) rfl (by rw [hml]; rfl) (argsL := []) (rest := []) (lenOf pd_5 rfl) rfl (by show 2 * 0 + _ ≤ _; exact Nat.le_of_eq rfl) (hb hby d6_0) (fun _ _ => ⟨rfl, e0, (by decide : 0 + 1 ≤ _), (by decide : 0 + 3 ≤ _)⟩)
  dsimp only [Pt.U, Pt.locs, Pt.cells, Pt.slots] at X1 l1 y1 z1 st1 hQ1
  subst l1 y1 z1
  obtain ⟨h1, e1⟩ : ∃ z, T1.heap = z := ⟨_, rfl⟩
  rw [e1] at hQ1
  obtain ⟨nb2_1, rfl, N1q, K1, sznb2_1, g1_0, g1_1⟩ := hQ1
  have N2 := Fr.app N0 N1q
  have ge3 : n0 ≤ nb2_1 := Nat.le_trans (Nat.le_trans (Nat.le_of_eq O0.1.symm) O0.2.1) sznb2_1
  have sz4 : h0.size ≤ nb2_1 := Nat.le_trans K0.1 sznb2_1
  obtain ⟨c5, r5, q5, s5, z5, y5, G5⟩ := id g1_0
  obtain ⟨c6, r6, q6, s6, z6, y6, G6⟩ := id g1_0
  have hin6 : ¬ ((0 : Int32) < 0 ∨ c6.slots.size ≤ ((0 : Int32)).toNatClampNeg) := inb_of s6 ⟨by decide, by decide⟩
  have hat6 : c6.slots[((0 : Int32)).toNatClampNeg]? = some (.ref o3_) := Has.at y6 hin6 rfl
  have f7 : Old Z n0 h1 := O0.keep K1 all0
  have f8 : Fld Z h1 o3_ "com/example/aeacus/aeacus/log/Outcome" "label" "Ljava/lang/String;" (.ref o6_) := P8.ext f7.2
  obtain ⟨T9, X9, e9, st9⟩ := getF X1 hx hZ hown (host := "") (Or.inl (hw _ (List.mem_of_getElem? (i := 54) rfl))) Via.refl e1 f8 (g := (mkF m 21 #[.val (.ref o0_), .val (.ref nb2_1), .val (.int (3 : Int32)), .val (.int (0 : Int32)), .val (.ref o3_)] [(.ref o3_)])) rfl rfl (hb hby d6_21)
  have f11 : Exa Z h1 o0_ "java/lang/String" := P0.keep K1
  have f12 : Fld Z h1 o0_ "java/lang/String" "coder" "B" (.int (0 : Int32)) := P1.keep K1 nin0
  have f13 : Fld Z h1 o0_ "java/lang/String" "value" "[B" (.ref o1_) := P2.keep K1 nin0
  have f14 : Arv Z h1 o1_ ko1_ .byte (7 : Int32) [(.int (114 : Int32)), (.int (101 : Int32)), (.int (102 : Int32)), (.int (117 : Int32)), (.int (115 : Int32)), (.int (101 : Int32)), (.int (100 : Int32))] (.int (0 : Int32)) := P3.keep K1 nin0
  have f15 : Exa Z h1 o1_ "[B" := P4.keep K1
  have f16 : Exa Z h1 o6_ "java/lang/String" := P13.ext f7.2
  obtain ⟨cq10, kq10, q10a, q10b, q10c⟩ := isOf hZ e9 f16
  obtain ⟨_, _, ⟨T10, L10, k10, n10⟩, -, X10, ⟨Lc10, hQ10, l10, y10, z10⟩, st10⟩ := X9.virtualBack hx (y := (⟨"java/lang/String", "equals", "(Ljava/lang/Object;)Z"⟩ : MethodName)) (z := (⟨"java/lang/String", "equals", "(Ljava/lang/Object;)Z"⟩ : MethodName)) hown (mvT hZ (hw _ (List.mem_of_getElem? (i := 56) rfl))) (mvT hZ (hw _ (List.mem_of_getElem? (i := 57) rfl))) (notFace_of_selects (args := #[]) (mvT hZ (hw _ (List.mem_of_getElem? (i := 59) rfl)))) (mvT hZ (hw _ (List.mem_of_getElem? (i := 59) rfl))) (mvT hZ (hw _ (List.mem_of_getElem? (i := 58) rfl))) (by decide) (backOf (W := 0) (rmequals23 l Z a0 hw [] o6_ o0_ o9_ o1_ ko9_ ko1_ x0_ h1 n0 f7 P13 P14 P15 f11 f12 f13 P22 f14 f15 P28 P26 P27) hZ (hw _ (List.mem_of_getElem? (i := 60) rfl)) (hw _ (List.mem_of_getElem? (i := 7) rfl)) (by decide) (by decide)) q10a q10c (g := (mkF m 25 #[.val (.ref o0_), .val (.ref nb2_1), .val (.int (3 : Int32)), .val (.int (0 : Int32)), .val (.ref o3_)] [(.ref o0_), (.ref o6_)])) rfl (by rw [hml]; rfl) (Steps.refl _) (argsL := [(.ref o0_)]) (rest := []) (lenOf pd_7 rfl) rfl (by show 2 * 0 + _ ≤ _; exact Nat.le_of_eq rfl) (hb hby d6_25) (fun _ _ => ⟨rfl, e9, (by decide : 1 + 0 ≤ _), (by decide : 3 + 0 ≤ _)⟩)
  dsimp only [Pt.U, Pt.locs, Pt.cells, Pt.slots] at X10 l10 y10 z10 st10 hQ10
  subst l10 y10 z10
  obtain ⟨h10, e10⟩ : ∃ z, T10.heap = z := ⟨_, rfl⟩
  rw [e10] at hQ10
  obtain ⟨rfl, N10q, hh10⟩ := hQ10
  have N17 := Fr.app N2 N10q
  have e10' : T10.heap = h1 := e10.trans hh10
  obtain ⟨c18, r18, q18, s18, z18, y18, G18⟩ := id g1_0
  have hin18 : ¬ ((1 : Int32) < 0 ∨ c18.slots.size ≤ ((1 : Int32)).toNatClampNeg) := inb_of s18 ⟨by decide, by decide⟩
  have hat18 : c18.slots[((1 : Int32)).toNatClampNeg]? = some (.ref o4_) := Has.at y18 hin18 rfl
  have f19 : Fld Z h1 o4_ "com/example/aeacus/aeacus/log/Outcome" "label" "Ljava/lang/String;" (.ref o7_) := P10.ext f7.2
  obtain ⟨T20, X20, e20, st20⟩ := getF X10 hx hZ hown (host := "") (Or.inl (hw _ (List.mem_of_getElem? (i := 54) rfl))) Via.refl e10' f19 (g := (mkF m 21 #[.val (.ref o0_), .val (.ref nb2_1), .val (.int (3 : Int32)), .val (.int (1 : Int32)), .val (.ref o4_)] [(.ref o4_)])) rfl rfl (hb hby d6_21)
  have f22 : Exa Z h1 o7_ "java/lang/String" := P16.ext f7.2
  obtain ⟨cq21, kq21, q21a, q21b, q21c⟩ := isOf hZ e20 f22
  obtain ⟨_, _, ⟨T21, L21, k21, n21⟩, -, X21, ⟨Lc21, hQ21, l21, y21, z21⟩, st21⟩ := X20.virtualBack hx (y := (⟨"java/lang/String", "equals", "(Ljava/lang/Object;)Z"⟩ : MethodName)) (z := (⟨"java/lang/String", "equals", "(Ljava/lang/Object;)Z"⟩ : MethodName)) hown (mvT hZ (hw _ (List.mem_of_getElem? (i := 56) rfl))) (mvT hZ (hw _ (List.mem_of_getElem? (i := 57) rfl))) (notFace_of_selects (args := #[]) (mvT hZ (hw _ (List.mem_of_getElem? (i := 59) rfl)))) (mvT hZ (hw _ (List.mem_of_getElem? (i := 59) rfl))) (mvT hZ (hw _ (List.mem_of_getElem? (i := 58) rfl))) (by decide) (backOf (W := 0) (rmequals25 l Z a0 hw [] o7_ o0_ o10_ o1_ ko10_ ko1_ x0_ h1 n0 f7 P16 P17 P18 f11 f12 f13 P23 f14 f15 P28 P26 P27) hZ (hw _ (List.mem_of_getElem? (i := 60) rfl)) (hw _ (List.mem_of_getElem? (i := 7) rfl)) (by decide) (by decide)) q21a q21c (g := (mkF m 25 #[.val (.ref o0_), .val (.ref nb2_1), .val (.int (3 : Int32)), .val (.int (1 : Int32)), .val (.ref o4_)] [(.ref o0_), (.ref o7_)])) rfl (by rw [hml]; rfl) (Steps.refl _) (argsL := [(.ref o0_)]) (rest := []) (lenOf pd_7 rfl) rfl (by show 2 * 0 + _ ≤ _; exact Nat.le_of_eq rfl) (hb hby d6_25) (fun _ _ => ⟨rfl, e20, (by decide : 1 + 0 ≤ _), (by decide : 3 + 0 ≤ _)⟩)
  dsimp only [Pt.U, Pt.locs, Pt.cells, Pt.slots] at X21 l21 y21 z21 st21 hQ21
  subst l21 y21 z21
  obtain ⟨h21, e21⟩ : ∃ z, T21.heap = z := ⟨_, rfl⟩
  rw [e21] at hQ21
  obtain ⟨rfl, N21q, hh21⟩ := hQ21
  have N23 := Fr.app N17 N21q
  have e21' : T21.heap = h1 := e21.trans hh21
  have pre24 : ∀ t, Steps p.tables e below (T21.setTop (mkF m 33 #[.val (.ref o0_), .val (.ref nb2_1), .val (.int (3 : Int32)), .val (.int (1 : Int32)), .val (.ref o4_)] [(.ref o4_)])) t → Steps p.tables e below (s₁.setTop (entryFrame m #[(.ref o0_)] 5)) t := by
    intro t kt
    refine pre0 t ?_
    show Steps p.tables e below (s₁.setTop (mkF m 0 #[.val (.ref o0_), .unset, .unset, .unset, .unset] [])) _
    refine st1 _ ?_
    show Steps p.tables e below (T1.setTop (mkF m 3 #[.val (.ref o0_), .unset, .unset, .unset, .unset] [(.ref nb2_1)])) _
    refine XS.astoreN X1.here hx rfl (hb hby d6_3) rfl rfl (l' := #[.val (.ref o0_), .val (.ref nb2_1), .unset, .unset, .unset]) rfl ?_
    show Steps p.tables e below (T1.setTop (mkF m 4 #[.val (.ref o0_), .val (.ref nb2_1), .unset, .unset, .unset] [])) _
    refine XS.aloadN X1.here hx rfl (hb hby d6_4) rfl rfl ?_
    show Steps p.tables e below (T1.setTop (mkF m 5 #[.val (.ref o0_), .val (.ref nb2_1), .unset, .unset, .unset] [(.ref nb2_1)])) _
    refine X1.arraylength hx (by rw [e1]; exact r5.1) (State.isArrayOf_alike hZ.alike r5.2.1) (g := (mkF m 5 #[.val (.ref o0_), .val (.ref nb2_1), .unset, .unset, .unset] [(.ref nb2_1)])) rfl rfl (hb hby d6_5) _ ?_
    rw [len_of s5 z5]
    show Steps p.tables e below (T1.setTop (mkF m 6 #[.val (.ref o0_), .val (.ref nb2_1), .unset, .unset, .unset] [(.int (3 : Int32))])) _
    refine XS.istoreN X1.here hx rfl (hb hby d6_6) rfl (l' := #[.val (.ref o0_), .val (.ref nb2_1), .val (.int (3 : Int32)), .unset, .unset]) rfl ?_
    show Steps p.tables e below (T1.setTop (mkF m 7 #[.val (.ref o0_), .val (.ref nb2_1), .val (.int (3 : Int32)), .unset, .unset] [])) _
    refine XS.iconst X1.here hx rfl (hb hby d6_7) ?_
    show Steps p.tables e below (T1.setTop (mkF m 8 #[.val (.ref o0_), .val (.ref nb2_1), .val (.int (3 : Int32)), .unset, .unset] [(.int (0 : Int32))])) _
    refine XS.istoreN X1.here hx rfl (hb hby d6_8) rfl (l' := #[.val (.ref o0_), .val (.ref nb2_1), .val (.int (3 : Int32)), .val (.int (0 : Int32)), .unset]) rfl ?_
    show Steps p.tables e below (T1.setTop (mkF m 9 #[.val (.ref o0_), .val (.ref nb2_1), .val (.int (3 : Int32)), .val (.int (0 : Int32)), .unset] [])) _
    refine XS.iloadN X1.here hx rfl (hb hby d6_9) rfl ?_
    show Steps p.tables e below (T1.setTop (mkF m 10 #[.val (.ref o0_), .val (.ref nb2_1), .val (.int (3 : Int32)), .val (.int (0 : Int32)), .unset] [(.int (0 : Int32))])) _
    refine XS.iloadN X1.here hx rfl (hb hby d6_10) rfl ?_
    show Steps p.tables e below (T1.setTop (mkF m 11 #[.val (.ref o0_), .val (.ref nb2_1), .val (.int (3 : Int32)), .val (.int (0 : Int32)), .unset] [(.int (3 : Int32)), (.int (0 : Int32))])) _
    refine XS.icmpNo X1.here hx rfl (hb hby d6_11) rfl (tlt (by decide : (0 : Int32) < (3 : Int32))).2.1 ?_
    show Steps p.tables e below (T1.setTop (mkF m 14 #[.val (.ref o0_), .val (.ref nb2_1), .val (.int (3 : Int32)), .val (.int (0 : Int32)), .unset] [])) _
    refine XS.aloadN X1.here hx rfl (hb hby d6_14) rfl rfl ?_
    show Steps p.tables e below (T1.setTop (mkF m 15 #[.val (.ref o0_), .val (.ref nb2_1), .val (.int (3 : Int32)), .val (.int (0 : Int32)), .unset] [(.ref nb2_1)])) _
    refine XS.iloadN X1.here hx rfl (hb hby d6_15) rfl ?_
    show Steps p.tables e below (T1.setTop (mkF m 16 #[.val (.ref o0_), .val (.ref nb2_1), .val (.int (3 : Int32)), .val (.int (0 : Int32)), .unset] [(.int (0 : Int32)), (.ref nb2_1)])) _
    refine X1.aaload hx (j := (0 : Int32)) (v := (.ref o3_)) (by rw [e1]; exact r6.1) (State.isArrayOf_alike hZ.alike r6.2.1) rfl r6.2.2 hin6 hat6 (g := (mkF m 16 #[.val (.ref o0_), .val (.ref nb2_1), .val (.int (3 : Int32)), .val (.int (0 : Int32)), .unset] [(.int (0 : Int32)), (.ref nb2_1)])) rfl rfl (hb hby d6_16) _ ?_
    show Steps p.tables e below (T1.setTop (mkF m 17 #[.val (.ref o0_), .val (.ref nb2_1), .val (.int (3 : Int32)), .val (.int (0 : Int32)), .unset] [(.ref o3_)])) _
    refine XS.astore X1.here hx rfl (hb hby d6_17) rfl rfl (l' := #[.val (.ref o0_), .val (.ref nb2_1), .val (.int (3 : Int32)), .val (.int (0 : Int32)), .val (.ref o3_)]) rfl ?_
    show Steps p.tables e below (T1.setTop (mkF m 19 #[.val (.ref o0_), .val (.ref nb2_1), .val (.int (3 : Int32)), .val (.int (0 : Int32)), .val (.ref o3_)] [])) _
    refine XS.aload X1.here hx rfl (hb hby d6_19) rfl rfl ?_
    show Steps p.tables e below (T1.setTop (mkF m 21 #[.val (.ref o0_), .val (.ref nb2_1), .val (.int (3 : Int32)), .val (.int (0 : Int32)), .val (.ref o3_)] [(.ref o3_)])) _
    refine st9 _ ?_
    show Steps p.tables e below (T9.setTop (mkF m 24 #[.val (.ref o0_), .val (.ref nb2_1), .val (.int (3 : Int32)), .val (.int (0 : Int32)), .val (.ref o3_)] [(.ref o6_)])) _
    refine XS.aloadN X9.here hx rfl (hb hby d6_24) rfl rfl ?_
    show Steps p.tables e below (T9.setTop (mkF m 25 #[.val (.ref o0_), .val (.ref nb2_1), .val (.int (3 : Int32)), .val (.int (0 : Int32)), .val (.ref o3_)] [(.ref o0_), (.ref o6_)])) _
    refine st10.trans ?_
    show Steps p.tables e below (T10.setTop (mkF m 28 #[.val (.ref o0_), .val (.ref nb2_1), .val (.int (3 : Int32)), .val (.int (0 : Int32)), .val (.ref o3_)] [(.int (0 : Int32))])) _
    refine XS.ifYes X10.here hx rfl (pc0 := 28) (pc' := 34) rfl (hb hby d6_28) rfl ((if0 _ _).trans (teq (by decide : (0 : Int32) = (0 : Int32))).1) (by decide) (by decide) ?_
    show Steps p.tables e below (T10.setTop (mkF m 34 #[.val (.ref o0_), .val (.ref nb2_1), .val (.int (3 : Int32)), .val (.int (0 : Int32)), .val (.ref o3_)] [])) _
    refine XS.iinc X10.here hx rfl (hb hby d6_34) rfl (l' := #[.val (.ref o0_), .val (.ref nb2_1), .val (.int (3 : Int32)), .val (.int (1 : Int32)), .val (.ref o3_)]) rfl ?_
    show Steps p.tables e below (T10.setTop (mkF m 37 #[.val (.ref o0_), .val (.ref nb2_1), .val (.int (3 : Int32)), .val (.int (1 : Int32)), .val (.ref o3_)] [])) _
    refine XS.goto X10.here hx rfl (pc0 := 37) (pc' := 9) rfl (hb hby d6_37) (by decide) (by decide) ?_
    show Steps p.tables e below (T10.setTop (mkF m 9 #[.val (.ref o0_), .val (.ref nb2_1), .val (.int (3 : Int32)), .val (.int (1 : Int32)), .val (.ref o3_)] [])) _
    refine XS.iloadN X10.here hx rfl (hb hby d6_9) rfl ?_
    show Steps p.tables e below (T10.setTop (mkF m 10 #[.val (.ref o0_), .val (.ref nb2_1), .val (.int (3 : Int32)), .val (.int (1 : Int32)), .val (.ref o3_)] [(.int (1 : Int32))])) _
    refine XS.iloadN X10.here hx rfl (hb hby d6_10) rfl ?_
    show Steps p.tables e below (T10.setTop (mkF m 11 #[.val (.ref o0_), .val (.ref nb2_1), .val (.int (3 : Int32)), .val (.int (1 : Int32)), .val (.ref o3_)] [(.int (3 : Int32)), (.int (1 : Int32))])) _
    refine XS.icmpNo X10.here hx rfl (hb hby d6_11) rfl (tlt (by decide : (1 : Int32) < (3 : Int32))).2.1 ?_
    show Steps p.tables e below (T10.setTop (mkF m 14 #[.val (.ref o0_), .val (.ref nb2_1), .val (.int (3 : Int32)), .val (.int (1 : Int32)), .val (.ref o3_)] [])) _
    refine XS.aloadN X10.here hx rfl (hb hby d6_14) rfl rfl ?_
    show Steps p.tables e below (T10.setTop (mkF m 15 #[.val (.ref o0_), .val (.ref nb2_1), .val (.int (3 : Int32)), .val (.int (1 : Int32)), .val (.ref o3_)] [(.ref nb2_1)])) _
    refine XS.iloadN X10.here hx rfl (hb hby d6_15) rfl ?_
    show Steps p.tables e below (T10.setTop (mkF m 16 #[.val (.ref o0_), .val (.ref nb2_1), .val (.int (3 : Int32)), .val (.int (1 : Int32)), .val (.ref o3_)] [(.int (1 : Int32)), (.ref nb2_1)])) _
    refine X10.aaload hx (j := (1 : Int32)) (v := (.ref o4_)) (by rw [e10']; exact r18.1) (State.isArrayOf_alike hZ.alike r18.2.1) rfl r18.2.2 hin18 hat18 (g := (mkF m 16 #[.val (.ref o0_), .val (.ref nb2_1), .val (.int (3 : Int32)), .val (.int (1 : Int32)), .val (.ref o3_)] [(.int (1 : Int32)), (.ref nb2_1)])) rfl rfl (hb hby d6_16) _ ?_
    show Steps p.tables e below (T10.setTop (mkF m 17 #[.val (.ref o0_), .val (.ref nb2_1), .val (.int (3 : Int32)), .val (.int (1 : Int32)), .val (.ref o3_)] [(.ref o4_)])) _
    refine XS.astore X10.here hx rfl (hb hby d6_17) rfl rfl (l' := #[.val (.ref o0_), .val (.ref nb2_1), .val (.int (3 : Int32)), .val (.int (1 : Int32)), .val (.ref o4_)]) rfl ?_
    show Steps p.tables e below (T10.setTop (mkF m 19 #[.val (.ref o0_), .val (.ref nb2_1), .val (.int (3 : Int32)), .val (.int (1 : Int32)), .val (.ref o4_)] [])) _
    refine XS.aload X10.here hx rfl (hb hby d6_19) rfl rfl ?_
    show Steps p.tables e below (T10.setTop (mkF m 21 #[.val (.ref o0_), .val (.ref nb2_1), .val (.int (3 : Int32)), .val (.int (1 : Int32)), .val (.ref o4_)] [(.ref o4_)])) _
    refine st20 _ ?_
    show Steps p.tables e below (T20.setTop (mkF m 24 #[.val (.ref o0_), .val (.ref nb2_1), .val (.int (3 : Int32)), .val (.int (1 : Int32)), .val (.ref o4_)] [(.ref o7_)])) _
    refine XS.aloadN X20.here hx rfl (hb hby d6_24) rfl rfl ?_
    show Steps p.tables e below (T20.setTop (mkF m 25 #[.val (.ref o0_), .val (.ref nb2_1), .val (.int (3 : Int32)), .val (.int (1 : Int32)), .val (.ref o4_)] [(.ref o0_), (.ref o7_)])) _
    refine st21.trans ?_
    show Steps p.tables e below (T21.setTop (mkF m 28 #[.val (.ref o0_), .val (.ref nb2_1), .val (.int (3 : Int32)), .val (.int (1 : Int32)), .val (.ref o4_)] [(.int (1 : Int32))])) _
    refine XS.ifNo X21.here hx rfl (hb hby d6_28) rfl ((if0 _ _).trans (feq (by decide : ¬ ((1 : Int32) = (0 : Int32)))).1) ?_
    show Steps p.tables e below (T21.setTop (mkF m 31 #[.val (.ref o0_), .val (.ref nb2_1), .val (.int (3 : Int32)), .val (.int (1 : Int32)), .val (.ref o4_)] [])) _
    refine XS.aload X21.here hx rfl (hb hby d6_31) rfl rfl ?_
    exact kt
  have f26 : Keep h0 h1 [] := K0.trans K1 all0
  obtain ⟨fs, hr, hrun, hended, hW, hsame⟩ := X21.leave (v := some (.ref o4_)) (fun h => by rw [Bd.returns] at h; cases h)
  refine ⟨_, _, pre24 _ (retOut X21 hx Bd.returns rfl (Or.inr (Or.inr (Or.inr (Or.inr ⟨rfl, rfl, rfl⟩)))) (hb hby d6_33) hr), hrun, hended, _, _, rfl, ?_, ⟨_, rfl⟩, hW, hsame.mono (by decide) (by decide)⟩
  show Qof20 Z o0_ o1_ ko1_ o2_ ko2_ o3_ o4_ o5_ o6_ o7_ o8_ o9_ o10_ o11_ ko9_ ko10_ ko11_ x0_ h0 n0 _ T21.heap _
  rw [e21']
  exact ⟨rfl, N23, f26⟩
theorem eflabel27 (m : MethodId) (o0_ : Addr) : entryFrame m #[(.ref o0_)] 1 = mkF m 0 #[.val (.ref o0_)] [] := by first | (simp [entryFrame, mkF, argsToLocals, Value.category]; done) | rfl
def Qlabel27 (Z : State) (o0_ : Addr) (o1_ : Addr) (o2_ : Addr) (ko2_ : ClassId) (h0 : Heap) (n0 : Nat) (v : Option Value) (h : Heap) (L : List Loc) : Prop := v = some (.ref o1_) ∧ Fr n0 L ∧ h = h0
set_option maxRecDepth 65536 in
set_option maxHeartbeats 40000000 in
theorem rmlabel27 (l : Launch) (Z : State) (a0 : Array Value) (hw : ∀ d ∈ tables_1, d.before a0 Z = true) (ws : List Jvm.Cond) (o0_ : Addr) (o1_ : Addr) (o2_ : Addr) (ko2_ : ClassId) (h0 : Heap) (n0 : Nat) (O0 : Old Z n0 h0) (P0 : Exa Z Z.heap o0_ "com/example/aeacus/aeacus/log/Outcome") (P1 : Fld Z Z.heap o0_ "com/example/aeacus/aeacus/log/Outcome" "label" "Ljava/lang/String;" (.ref o1_)) (P2 : Exa Z Z.heap o1_ "java/lang/String") (P3 : Fld Z Z.heap o1_ "java/lang/String" "value" "[B" (.ref o2_)) (P4 : Fld Z Z.heap o1_ "java/lang/String" "coder" "B" (.int (0 : Int32))) (P5 : Arv Z Z.heap o2_ ko2_ .byte (7 : Int32) [(.int (114 : Int32)), (.int (101 : Int32)), (.int (102 : Int32)), (.int (117 : Int32)), (.int (115 : Int32)), (.int (101 : Int32)), (.int (100 : Int32))] (.int (0 : Int32))) :
    MetFree l (⟨"com/example/aeacus/aeacus/log/Outcome", "label", "()Ljava/lang/String;"⟩ : MethodName) (head1 (Jvm.Cond.code (⟨"com/example/aeacus/aeacus/log/Outcome", "label", "()Ljava/lang/String;"⟩ : MethodName) prog_29_method_4_code 1 (some (.object "java/lang/String")) :: ws) ({ frames := 0, cells := 0, slots := 0, locals := 0 } : Room)) (fun a U => a = #[(.ref o0_)] ∧ Z.Warmed39 U.vm ∧ U.heap = h0) (fun _ _ _ _ _ => True) (fun _ U o U' => ∃ v L, o = .returned v ∧ Qlabel27 Z o0_ o1_ o2_ ko2_ h0 n0 v U'.heap L ∧ FrameEnd U o U' L ({ frames := 0, cells := 0, slots := 0, locals := 0 } : Room).cells ({ frames := 0, cells := 0, slots := 0, locals := 0 } : Room).slots) := by
  refine MetFree.of_bodySF (plainFor_of_name pn_2) hisR ?_
  intro p e s m args below meth c s₁ Bd hml0 hP hK
  obtain ⟨rfl, hZ, hh⟩ := hP
  have hx := Bd.exec
  have hby := Bd.bytes
  have hml : c.maxLocals = 1 := hml0
  have hown : s.vm.findClass "com/example/aeacus/aeacus/log/Outcome" = some m.cls := findClass_of_methodNamed Bd.named
  have hnm := (name_of_methodNamed Bd.named Bd.method).1
  have X0 : Stand p l e ({ frames := 0, cells := 0, slots := 0, locals := 0 } : Room) s m #[(.ref o0_)] below meth c s₁ [] 0 0 := Stand.of_body Bd
  have e0 : s₁.heap = h0 := by rw [← hh, Bd.state]; rfl
  have N0 := Fr.nil n0
  have pre0 : ∀ t, Steps p.tables e below (s₁.setTop (mkF m 0 #[.val (.ref o0_)] [])) t → Steps p.tables e below (s₁.setTop (entryFrame m #[(.ref o0_)] 1)) t := fun t k => castTop (eflabel27 m o0_) k
  have K0 : Keep h0 h0 [] := Keep.refl _ _
  have f1 : Fld Z h0 o0_ "com/example/aeacus/aeacus/log/Outcome" "label" "Ljava/lang/String;" (.ref o1_) := P1.ext O0.2
  obtain ⟨T2, X2, e2, st2⟩ := getF X0 hx hZ hown (host := "") (Or.inl (hw _ (List.mem_of_getElem? (i := 54) rfl))) Via.refl e0 f1 (g := (mkF m 1 #[.val (.ref o0_)] [(.ref o0_)])) rfl rfl (hb hby d10_1)
  have pre3 : ∀ t, Steps p.tables e below (T2.setTop (mkF m 4 #[.val (.ref o0_)] [(.ref o1_)])) t → Steps p.tables e below (s₁.setTop (entryFrame m #[(.ref o0_)] 1)) t := by
    intro t kt
    refine pre0 t ?_
    show Steps p.tables e below (s₁.setTop (mkF m 0 #[.val (.ref o0_)] [])) _
    refine XS.aloadN X0.here hx rfl (hb hby d10_0) rfl rfl ?_
    show Steps p.tables e below (s₁.setTop (mkF m 1 #[.val (.ref o0_)] [(.ref o0_)])) _
    refine st2 _ ?_
    exact kt
  obtain ⟨fs, hr, hrun, hended, hW, hsame⟩ := X2.leave (v := some (.ref o1_)) (fun h => by rw [Bd.returns] at h; cases h)
  refine ⟨_, _, pre3 _ (retOut X2 hx Bd.returns rfl (Or.inr (Or.inr (Or.inr (Or.inr ⟨rfl, rfl, rfl⟩)))) (hb hby d10_4) hr), hrun, hended, _, _, rfl, ?_, ⟨_, rfl⟩, hW, hsame.mono (by decide) (by decide)⟩
  show Qlabel27 Z o0_ o1_ o2_ ko2_ h0 n0 _ T2.heap _
  rw [e2]
  exact ⟨rfl, N0, rfl⟩
theorem efcompress32 (m : MethodId) (o0_ : Addr) (o1_ : Addr) : entryFrame m #[(.ref o0_), (.int (0 : Int32)), (.ref o1_), (.int (0 : Int32)), (.int (6 : Int32))] 7 = mkF m 0 #[.val (.ref o0_), .val (.int (0 : Int32)), .val (.ref o1_), .val (.int (0 : Int32)), .val (.int (6 : Int32)), .unset, .unset] [] := by first | (simp [entryFrame, mkF, argsToLocals, Value.category]; done) | rfl
def Qcompress32 (Z : State) (o0_ : Addr) (o1_ : Addr) (ko0_ : ClassId) (ko1_ : ClassId) (h0 : Heap) (n0 : Nat) (v : Option Value) (h : Heap) (L : List Loc) : Prop := v = some (.int (6 : Int32)) ∧ Fr n0 L ∧ Keep h0 h [o1_] ∧ Arv Z h o1_ ko1_ .byte (6 : Int32) [(.int (102 : Int32)), (.int (97 : Int32)), (.int (105 : Int32)), (.int (108 : Int32)), (.int (101 : Int32)), (.int (100 : Int32))] (.int (0 : Int32)) ∧ Exa Z h o1_ "[B"
set_option maxRecDepth 65536 in
set_option maxHeartbeats 40000000 in
theorem rmcompress32 (l : Launch) (Z : State) (a0 : Array Value) (hw : ∀ d ∈ tables_1, d.before a0 Z = true) (ws : List Jvm.Cond) (o0_ : Addr) (o1_ : Addr) (ko0_ : ClassId) (ko1_ : ClassId) (h0 : Heap) (n0 : Nat) (O0 : Old Z n0 h0) (P0 : Arv Z h0 o0_ ko0_ .char (6 : Int32) [(.int (102 : Int32)), (.int (97 : Int32)), (.int (105 : Int32)), (.int (108 : Int32)), (.int (101 : Int32)), (.int (100 : Int32))] (.int (0 : Int32))) (P1 : Exa Z h0 o0_ "[C") (P2 : Arv Z h0 o1_ ko1_ .byte (6 : Int32) [(.int (0 : Int32)), (.int (0 : Int32)), (.int (0 : Int32)), (.int (0 : Int32)), (.int (0 : Int32)), (.int (0 : Int32))] (.int (0 : Int32))) (P3 : Exa Z h0 o1_ "[B") (P4 : n0 ≤ o1_) (P5 : o0_ ≠ o1_) :
    MetFree l (⟨"java/lang/StringUTF16", "compress", "([CI[BII)I"⟩ : MethodName) (head1 (Jvm.Cond.code (⟨"java/lang/StringUTF16", "compress", "([CI[BII)I"⟩ : MethodName) jdk_52_method_21_code 7 (some .int) :: ws) ({ frames := 0, cells := 0, slots := 0, locals := 0 } : Room)) (fun a U => a = #[(.ref o0_), (.int (0 : Int32)), (.ref o1_), (.int (0 : Int32)), (.int (6 : Int32))] ∧ Z.Warmed39 U.vm ∧ U.heap = h0) (fun _ _ _ _ _ => True) (fun _ U o U' => ∃ v L, o = .returned v ∧ Qcompress32 Z o0_ o1_ ko0_ ko1_ h0 n0 v U'.heap L ∧ FrameEnd U o U' L ({ frames := 0, cells := 0, slots := 0, locals := 0 } : Room).cells ({ frames := 0, cells := 0, slots := 0, locals := 0 } : Room).slots) := by
  refine MetFree.of_bodySF (plainFor_of_name pn_0) hisR ?_
  intro p e s m args below meth c s₁ Bd hml0 hP hK
  obtain ⟨rfl, hZ, hh⟩ := hP
  have hx := Bd.exec
  have hby := Bd.bytes
  have hml : c.maxLocals = 7 := hml0
  have hown : s.vm.findClass "java/lang/StringUTF16" = some m.cls := findClass_of_methodNamed Bd.named
  have hnm := (name_of_methodNamed Bd.named Bd.method).1
  have X0 : Stand p l e ({ frames := 0, cells := 0, slots := 0, locals := 0 } : Room) s m #[(.ref o0_), (.int (0 : Int32)), (.ref o1_), (.int (0 : Int32)), (.int (6 : Int32))] below meth c s₁ [] 0 0 := Stand.of_body Bd
  have e0 : s₁.heap = h0 := by rw [← hh, Bd.state]; rfl
  have N0 := Fr.nil n0
  have pre0 : ∀ t, Steps p.tables e below (s₁.setTop (mkF m 0 #[.val (.ref o0_), .val (.int (0 : Int32)), .val (.ref o1_), .val (.int (0 : Int32)), .val (.int (6 : Int32)), .unset, .unset] [])) t → Steps p.tables e below (s₁.setTop (entryFrame m #[(.ref o0_), (.int (0 : Int32)), (.ref o1_), (.int (0 : Int32)), (.int (6 : Int32))] 7)) t := fun t k => castTop (efcompress32 m o0_ o1_) k
  have K0 : Keep h0 h0 [o1_] := Keep.refl _ _
  obtain ⟨c1, r1, q1, s1, z1, y1, G1⟩ := id P0
  have hin1 : ¬ ((0 : Int32) < 0 ∨ c1.slots.size ≤ ((0 : Int32)).toNatClampNeg) := inb_of s1 ⟨by decide, by decide⟩
  have hat1 : c1.slots[((0 : Int32)).toNatClampNeg]? = some (.int (102 : Int32)) := Has.at y1 hin1 rfl
  obtain ⟨c2, r2, q2, s2, z2, y2, G2⟩ := id P2
  have hin2 : ¬ ((0 : Int32) < 0 ∨ c2.slots.size ≤ ((0 : Int32)).toNatClampNeg) := inb_of s2 ⟨by decide, by decide⟩
  obtain ⟨T2, h2, X2, e2, W2, st2⟩ := stB X0 hx hZ e0 r2 (j := (0 : Int32)) hin2 (g := (mkF m 31 #[.val (.ref o0_), .val (.int (0 : Int32)), .val (.ref o1_), .val (.int (0 : Int32)), .val (.int (6 : Int32)), .val (.int (0 : Int32)), .val (.int (102 : Int32))] [(.int (102 : Int32)), (.int (0 : Int32)), (.ref o1_)])) rfl rfl (hb hby d4_31)
  have N3 := Fr.snoc X2 N0 P4
  have f4 : Arv Z h2 o1_ ko1_ .byte (6 : Int32) [(.int ((102 : Int32).toInt8.toInt32)), (.int (0 : Int32)), (.int (0 : Int32)), (.int (0 : Int32)), (.int (0 : Int32)), (.int (0 : Int32))] (.int (0 : Int32)) := Arv.set r2 q2 s2 z2 y2 G2 (fits_nar_byte _) W2 0 rfl (Nat.le_of_ble_eq_true rfl)
  have f5 : Arv Z h2 o1_ ko1_ .byte (6 : Int32) [(.int (102 : Int32)), (.int (0 : Int32)), (.int (0 : Int32)), (.int (0 : Int32)), (.int (0 : Int32)), (.int (0 : Int32))] (.int (0 : Int32)) := by have q := f4; exact q
  have f6 : Arv Z h2 o0_ ko0_ .char (6 : Int32) [(.int (102 : Int32)), (.int (97 : Int32)), (.int (105 : Int32)), (.int (108 : Int32)), (.int (101 : Int32)), (.int (100 : Int32))] (.int (0 : Int32)) := P0.other W2 P5
  obtain ⟨c7, r7, q7, s7, z7, y7, G7⟩ := id f6
  have hin7 : ¬ ((1 : Int32) < 0 ∨ c7.slots.size ≤ ((1 : Int32)).toNatClampNeg) := inb_of s7 ⟨by decide, by decide⟩
  have hat7 : c7.slots[((1 : Int32)).toNatClampNeg]? = some (.int (97 : Int32)) := Has.at y7 hin7 rfl
  obtain ⟨c8, r8, q8, s8, z8, y8, G8⟩ := id f5
  have hin8 : ¬ ((1 : Int32) < 0 ∨ c8.slots.size ≤ ((1 : Int32)).toNatClampNeg) := inb_of s8 ⟨by decide, by decide⟩
  obtain ⟨T8, h8, X8, e8, W8, st8⟩ := stB X2 hx hZ e2 r8 (j := (1 : Int32)) hin8 (g := (mkF m 31 #[.val (.ref o0_), .val (.int (1 : Int32)), .val (.ref o1_), .val (.int (1 : Int32)), .val (.int (6 : Int32)), .val (.int (1 : Int32)), .val (.int (97 : Int32))] [(.int (97 : Int32)), (.int (1 : Int32)), (.ref o1_)])) rfl rfl (hb hby d4_31)
  have N9 := Fr.snoc X8 N3 P4
  have f10 : Arv Z h8 o1_ ko1_ .byte (6 : Int32) [(.int (102 : Int32)), (.int ((97 : Int32).toInt8.toInt32)), (.int (0 : Int32)), (.int (0 : Int32)), (.int (0 : Int32)), (.int (0 : Int32))] (.int (0 : Int32)) := Arv.set r8 q8 s8 z8 y8 G8 (fits_nar_byte _) W8 1 rfl (Nat.le_of_ble_eq_true rfl)
  have f11 : Arv Z h8 o1_ ko1_ .byte (6 : Int32) [(.int (102 : Int32)), (.int (97 : Int32)), (.int (0 : Int32)), (.int (0 : Int32)), (.int (0 : Int32)), (.int (0 : Int32))] (.int (0 : Int32)) := by have q := f10; exact q
  have f12 : Arv Z h8 o0_ ko0_ .char (6 : Int32) [(.int (102 : Int32)), (.int (97 : Int32)), (.int (105 : Int32)), (.int (108 : Int32)), (.int (101 : Int32)), (.int (100 : Int32))] (.int (0 : Int32)) := f6.other W8 P5
  obtain ⟨c13, r13, q13, s13, z13, y13, G13⟩ := id f12
  have hin13 : ¬ ((2 : Int32) < 0 ∨ c13.slots.size ≤ ((2 : Int32)).toNatClampNeg) := inb_of s13 ⟨by decide, by decide⟩
  have hat13 : c13.slots[((2 : Int32)).toNatClampNeg]? = some (.int (105 : Int32)) := Has.at y13 hin13 rfl
  obtain ⟨c14, r14, q14, s14, z14, y14, G14⟩ := id f11
  have hin14 : ¬ ((2 : Int32) < 0 ∨ c14.slots.size ≤ ((2 : Int32)).toNatClampNeg) := inb_of s14 ⟨by decide, by decide⟩
  obtain ⟨T14, h14, X14, e14, W14, st14⟩ := stB X8 hx hZ e8 r14 (j := (2 : Int32)) hin14 (g := (mkF m 31 #[.val (.ref o0_), .val (.int (2 : Int32)), .val (.ref o1_), .val (.int (2 : Int32)), .val (.int (6 : Int32)), .val (.int (2 : Int32)), .val (.int (105 : Int32))] [(.int (105 : Int32)), (.int (2 : Int32)), (.ref o1_)])) rfl rfl (hb hby d4_31)
  have N15 := Fr.snoc X14 N9 P4
  have f16 : Arv Z h14 o1_ ko1_ .byte (6 : Int32) [(.int (102 : Int32)), (.int (97 : Int32)), (.int ((105 : Int32).toInt8.toInt32)), (.int (0 : Int32)), (.int (0 : Int32)), (.int (0 : Int32))] (.int (0 : Int32)) := Arv.set r14 q14 s14 z14 y14 G14 (fits_nar_byte _) W14 2 rfl (Nat.le_of_ble_eq_true rfl)
  have f17 : Arv Z h14 o1_ ko1_ .byte (6 : Int32) [(.int (102 : Int32)), (.int (97 : Int32)), (.int (105 : Int32)), (.int (0 : Int32)), (.int (0 : Int32)), (.int (0 : Int32))] (.int (0 : Int32)) := by have q := f16; exact q
  have f18 : Arv Z h14 o0_ ko0_ .char (6 : Int32) [(.int (102 : Int32)), (.int (97 : Int32)), (.int (105 : Int32)), (.int (108 : Int32)), (.int (101 : Int32)), (.int (100 : Int32))] (.int (0 : Int32)) := f12.other W14 P5
  obtain ⟨c19, r19, q19, s19, z19, y19, G19⟩ := id f18
  have hin19 : ¬ ((3 : Int32) < 0 ∨ c19.slots.size ≤ ((3 : Int32)).toNatClampNeg) := inb_of s19 ⟨by decide, by decide⟩
  have hat19 : c19.slots[((3 : Int32)).toNatClampNeg]? = some (.int (108 : Int32)) := Has.at y19 hin19 rfl
  obtain ⟨c20, r20, q20, s20, z20, y20, G20⟩ := id f17
  have hin20 : ¬ ((3 : Int32) < 0 ∨ c20.slots.size ≤ ((3 : Int32)).toNatClampNeg) := inb_of s20 ⟨by decide, by decide⟩
  obtain ⟨T20, h20, X20, e20, W20, st20⟩ := stB X14 hx hZ e14 r20 (j := (3 : Int32)) hin20 (g := (mkF m 31 #[.val (.ref o0_), .val (.int (3 : Int32)), .val (.ref o1_), .val (.int (3 : Int32)), .val (.int (6 : Int32)), .val (.int (3 : Int32)), .val (.int (108 : Int32))] [(.int (108 : Int32)), (.int (3 : Int32)), (.ref o1_)])) rfl rfl (hb hby d4_31)
  have N21 := Fr.snoc X20 N15 P4
  have f22 : Arv Z h20 o1_ ko1_ .byte (6 : Int32) [(.int (102 : Int32)), (.int (97 : Int32)), (.int (105 : Int32)), (.int ((108 : Int32).toInt8.toInt32)), (.int (0 : Int32)), (.int (0 : Int32))] (.int (0 : Int32)) := Arv.set r20 q20 s20 z20 y20 G20 (fits_nar_byte _) W20 3 rfl (Nat.le_of_ble_eq_true rfl)
  have f23 : Arv Z h20 o1_ ko1_ .byte (6 : Int32) [(.int (102 : Int32)), (.int (97 : Int32)), (.int (105 : Int32)), (.int (108 : Int32)), (.int (0 : Int32)), (.int (0 : Int32))] (.int (0 : Int32)) := by have q := f22; exact q
  have f24 : Arv Z h20 o0_ ko0_ .char (6 : Int32) [(.int (102 : Int32)), (.int (97 : Int32)), (.int (105 : Int32)), (.int (108 : Int32)), (.int (101 : Int32)), (.int (100 : Int32))] (.int (0 : Int32)) := f18.other W20 P5
  obtain ⟨c25, r25, q25, s25, z25, y25, G25⟩ := id f24
  have hin25 : ¬ ((4 : Int32) < 0 ∨ c25.slots.size ≤ ((4 : Int32)).toNatClampNeg) := inb_of s25 ⟨by decide, by decide⟩
  have hat25 : c25.slots[((4 : Int32)).toNatClampNeg]? = some (.int (101 : Int32)) := Has.at y25 hin25 rfl
  obtain ⟨c26, r26, q26, s26, z26, y26, G26⟩ := id f23
  have hin26 : ¬ ((4 : Int32) < 0 ∨ c26.slots.size ≤ ((4 : Int32)).toNatClampNeg) := inb_of s26 ⟨by decide, by decide⟩
  obtain ⟨T26, h26, X26, e26, W26, st26⟩ := stB X20 hx hZ e20 r26 (j := (4 : Int32)) hin26 (g := (mkF m 31 #[.val (.ref o0_), .val (.int (4 : Int32)), .val (.ref o1_), .val (.int (4 : Int32)), .val (.int (6 : Int32)), .val (.int (4 : Int32)), .val (.int (101 : Int32))] [(.int (101 : Int32)), (.int (4 : Int32)), (.ref o1_)])) rfl rfl (hb hby d4_31)
  have N27 := Fr.snoc X26 N21 P4
  have f28 : Arv Z h26 o1_ ko1_ .byte (6 : Int32) [(.int (102 : Int32)), (.int (97 : Int32)), (.int (105 : Int32)), (.int (108 : Int32)), (.int ((101 : Int32).toInt8.toInt32)), (.int (0 : Int32))] (.int (0 : Int32)) := Arv.set r26 q26 s26 z26 y26 G26 (fits_nar_byte _) W26 4 rfl (Nat.le_of_ble_eq_true rfl)
  have f29 : Arv Z h26 o1_ ko1_ .byte (6 : Int32) [(.int (102 : Int32)), (.int (97 : Int32)), (.int (105 : Int32)), (.int (108 : Int32)), (.int (101 : Int32)), (.int (0 : Int32))] (.int (0 : Int32)) := by have q := f28; exact q
  have f30 : Arv Z h26 o0_ ko0_ .char (6 : Int32) [(.int (102 : Int32)), (.int (97 : Int32)), (.int (105 : Int32)), (.int (108 : Int32)), (.int (101 : Int32)), (.int (100 : Int32))] (.int (0 : Int32)) := f24.other W26 P5
  obtain ⟨c31, r31, q31, s31, z31, y31, G31⟩ := id f30
  have hin31 : ¬ ((5 : Int32) < 0 ∨ c31.slots.size ≤ ((5 : Int32)).toNatClampNeg) := inb_of s31 ⟨by decide, by decide⟩
  have hat31 : c31.slots[((5 : Int32)).toNatClampNeg]? = some (.int (100 : Int32)) := Has.at y31 hin31 rfl
  obtain ⟨c32, r32, q32, s32, z32, y32, G32⟩ := id f29
  have hin32 : ¬ ((5 : Int32) < 0 ∨ c32.slots.size ≤ ((5 : Int32)).toNatClampNeg) := inb_of s32 ⟨by decide, by decide⟩
  obtain ⟨T32, h32, X32, e32, W32, st32⟩ := stB X26 hx hZ e26 r32 (j := (5 : Int32)) hin32 (g := (mkF m 31 #[.val (.ref o0_), .val (.int (5 : Int32)), .val (.ref o1_), .val (.int (5 : Int32)), .val (.int (6 : Int32)), .val (.int (5 : Int32)), .val (.int (100 : Int32))] [(.int (100 : Int32)), (.int (5 : Int32)), (.ref o1_)])) rfl rfl (hb hby d4_31)
  have N33 := Fr.snoc X32 N27 P4
  have f34 : Arv Z h32 o1_ ko1_ .byte (6 : Int32) [(.int (102 : Int32)), (.int (97 : Int32)), (.int (105 : Int32)), (.int (108 : Int32)), (.int (101 : Int32)), (.int ((100 : Int32).toInt8.toInt32))] (.int (0 : Int32)) := Arv.set r32 q32 s32 z32 y32 G32 (fits_nar_byte _) W32 5 rfl (Nat.le_of_ble_eq_true rfl)
  have f35 : Arv Z h32 o1_ ko1_ .byte (6 : Int32) [(.int (102 : Int32)), (.int (97 : Int32)), (.int (105 : Int32)), (.int (108 : Int32)), (.int (101 : Int32)), (.int (100 : Int32))] (.int (0 : Int32)) := by have q := f34; exact q
  have pre36 : ∀ t, Steps p.tables e below (T32.setTop (mkF m 46 #[.val (.ref o0_), .val (.int (6 : Int32)), .val (.ref o1_), .val (.int (6 : Int32)), .val (.int (6 : Int32)), .val (.int (6 : Int32)), .val (.int (100 : Int32))] [(.int (6 : Int32))])) t → Steps p.tables e below (s₁.setTop (entryFrame m #[(.ref o0_), (.int (0 : Int32)), (.ref o1_), (.int (0 : Int32)), (.int (6 : Int32))] 7)) t := by
    intro t kt
    refine pre0 t ?_
    show Steps p.tables e below (s₁.setTop (mkF m 0 #[.val (.ref o0_), .val (.int (0 : Int32)), .val (.ref o1_), .val (.int (0 : Int32)), .val (.int (6 : Int32)), .unset, .unset] [])) _
    refine XS.iconst X0.here hx rfl (hb hby d4_0) ?_
    show Steps p.tables e below (s₁.setTop (mkF m 1 #[.val (.ref o0_), .val (.int (0 : Int32)), .val (.ref o1_), .val (.int (0 : Int32)), .val (.int (6 : Int32)), .unset, .unset] [(.int (0 : Int32))])) _
    refine XS.istore X0.here hx rfl (hb hby d4_1) rfl (l' := #[.val (.ref o0_), .val (.int (0 : Int32)), .val (.ref o1_), .val (.int (0 : Int32)), .val (.int (6 : Int32)), .val (.int (0 : Int32)), .unset]) rfl ?_
    show Steps p.tables e below (s₁.setTop (mkF m 3 #[.val (.ref o0_), .val (.int (0 : Int32)), .val (.ref o1_), .val (.int (0 : Int32)), .val (.int (6 : Int32)), .val (.int (0 : Int32)), .unset] [])) _
    refine XS.iload X0.here hx rfl (hb hby d4_3) rfl ?_
    show Steps p.tables e below (s₁.setTop (mkF m 5 #[.val (.ref o0_), .val (.int (0 : Int32)), .val (.ref o1_), .val (.int (0 : Int32)), .val (.int (6 : Int32)), .val (.int (0 : Int32)), .unset] [(.int (0 : Int32))])) _
    refine XS.iload X0.here hx rfl (hb hby d4_5) rfl ?_
    show Steps p.tables e below (s₁.setTop (mkF m 7 #[.val (.ref o0_), .val (.int (0 : Int32)), .val (.ref o1_), .val (.int (0 : Int32)), .val (.int (6 : Int32)), .val (.int (0 : Int32)), .unset] [(.int (6 : Int32)), (.int (0 : Int32))])) _
    refine XS.icmpNo X0.here hx rfl (hb hby d4_7) rfl (tlt (by decide : (0 : Int32) < (6 : Int32))).2.1 ?_
    show Steps p.tables e below (s₁.setTop (mkF m 10 #[.val (.ref o0_), .val (.int (0 : Int32)), .val (.ref o1_), .val (.int (0 : Int32)), .val (.int (6 : Int32)), .val (.int (0 : Int32)), .unset] [])) _
    refine XS.aloadN X0.here hx rfl (hb hby d4_10) rfl rfl ?_
    show Steps p.tables e below (s₁.setTop (mkF m 11 #[.val (.ref o0_), .val (.int (0 : Int32)), .val (.ref o1_), .val (.int (0 : Int32)), .val (.int (6 : Int32)), .val (.int (0 : Int32)), .unset] [(.ref o0_)])) _
    refine XS.iloadN X0.here hx rfl (hb hby d4_11) rfl ?_
    show Steps p.tables e below (s₁.setTop (mkF m 12 #[.val (.ref o0_), .val (.int (0 : Int32)), .val (.ref o1_), .val (.int (0 : Int32)), .val (.int (6 : Int32)), .val (.int (0 : Int32)), .unset] [(.int (0 : Int32)), (.ref o0_)])) _
    refine X0.caload hx (j := (0 : Int32)) (v := (.int (102 : Int32))) (by rw [e0]; exact r1.1) (State.isArrayOf_alike hZ.alike r1.2.1) r1.2.2 hin1 hat1 (g := (mkF m 12 #[.val (.ref o0_), .val (.int (0 : Int32)), .val (.ref o1_), .val (.int (0 : Int32)), .val (.int (6 : Int32)), .val (.int (0 : Int32)), .unset] [(.int (0 : Int32)), (.ref o0_)])) rfl rfl (hb hby d4_12) _ ?_
    show Steps p.tables e below (s₁.setTop (mkF m 13 #[.val (.ref o0_), .val (.int (0 : Int32)), .val (.ref o1_), .val (.int (0 : Int32)), .val (.int (6 : Int32)), .val (.int (0 : Int32)), .unset] [(.int (102 : Int32))])) _
    refine XS.istore X0.here hx rfl (hb hby d4_13) rfl (l' := #[.val (.ref o0_), .val (.int (0 : Int32)), .val (.ref o1_), .val (.int (0 : Int32)), .val (.int (6 : Int32)), .val (.int (0 : Int32)), .val (.int (102 : Int32))]) rfl ?_
    show Steps p.tables e below (s₁.setTop (mkF m 15 #[.val (.ref o0_), .val (.int (0 : Int32)), .val (.ref o1_), .val (.int (0 : Int32)), .val (.int (6 : Int32)), .val (.int (0 : Int32)), .val (.int (102 : Int32))] [])) _
    refine XS.iload X0.here hx rfl (hb hby d4_15) rfl ?_
    show Steps p.tables e below (s₁.setTop (mkF m 17 #[.val (.ref o0_), .val (.int (0 : Int32)), .val (.ref o1_), .val (.int (0 : Int32)), .val (.int (6 : Int32)), .val (.int (0 : Int32)), .val (.int (102 : Int32))] [(.int (102 : Int32))])) _
    refine XS.sipush X0.here hx rfl (hb hby d4_17) ?_
    show Steps p.tables e below (s₁.setTop (mkF m 20 #[.val (.ref o0_), .val (.int (0 : Int32)), .val (.ref o1_), .val (.int (0 : Int32)), .val (.int (6 : Int32)), .val (.int (0 : Int32)), .val (.int (102 : Int32))] [(.int (255 : Int32)), (.int (102 : Int32))])) _
    refine XS.icmpYes X0.here hx rfl (pc0 := 20) (pc' := 26) rfl (hb hby d4_20) rfl (flt (by decide : ¬ ((255 : Int32) < (102 : Int32)))).2.2.2 (by decide) (by decide) ?_
    show Steps p.tables e below (s₁.setTop (mkF m 26 #[.val (.ref o0_), .val (.int (0 : Int32)), .val (.ref o1_), .val (.int (0 : Int32)), .val (.int (6 : Int32)), .val (.int (0 : Int32)), .val (.int (102 : Int32))] [])) _
    refine XS.aloadN X0.here hx rfl (hb hby d4_26) rfl rfl ?_
    show Steps p.tables e below (s₁.setTop (mkF m 27 #[.val (.ref o0_), .val (.int (0 : Int32)), .val (.ref o1_), .val (.int (0 : Int32)), .val (.int (6 : Int32)), .val (.int (0 : Int32)), .val (.int (102 : Int32))] [(.ref o1_)])) _
    refine XS.iloadN X0.here hx rfl (hb hby d4_27) rfl ?_
    show Steps p.tables e below (s₁.setTop (mkF m 28 #[.val (.ref o0_), .val (.int (0 : Int32)), .val (.ref o1_), .val (.int (0 : Int32)), .val (.int (6 : Int32)), .val (.int (0 : Int32)), .val (.int (102 : Int32))] [(.int (0 : Int32)), (.ref o1_)])) _
    refine XS.iload X0.here hx rfl (hb hby d4_28) rfl ?_
    show Steps p.tables e below (s₁.setTop (mkF m 30 #[.val (.ref o0_), .val (.int (0 : Int32)), .val (.ref o1_), .val (.int (0 : Int32)), .val (.int (6 : Int32)), .val (.int (0 : Int32)), .val (.int (102 : Int32))] [(.int (102 : Int32)), (.int (0 : Int32)), (.ref o1_)])) _
    refine XS.i2b X0.here hx rfl (hb hby d4_30) rfl ?_
    show Steps p.tables e below (s₁.setTop (mkF m 31 #[.val (.ref o0_), .val (.int (0 : Int32)), .val (.ref o1_), .val (.int (0 : Int32)), .val (.int (6 : Int32)), .val (.int (0 : Int32)), .val (.int (102 : Int32))] [(.int (102 : Int32)), (.int (0 : Int32)), (.ref o1_)])) _
    refine st2 _ ?_
    show Steps p.tables e below (T2.setTop (mkF m 32 #[.val (.ref o0_), .val (.int (0 : Int32)), .val (.ref o1_), .val (.int (0 : Int32)), .val (.int (6 : Int32)), .val (.int (0 : Int32)), .val (.int (102 : Int32))] [])) _
    refine XS.iinc X2.here hx rfl (hb hby d4_32) rfl (l' := #[.val (.ref o0_), .val (.int (1 : Int32)), .val (.ref o1_), .val (.int (0 : Int32)), .val (.int (6 : Int32)), .val (.int (0 : Int32)), .val (.int (102 : Int32))]) rfl ?_
    show Steps p.tables e below (T2.setTop (mkF m 35 #[.val (.ref o0_), .val (.int (1 : Int32)), .val (.ref o1_), .val (.int (0 : Int32)), .val (.int (6 : Int32)), .val (.int (0 : Int32)), .val (.int (102 : Int32))] [])) _
    refine XS.iinc X2.here hx rfl (hb hby d4_35) rfl (l' := #[.val (.ref o0_), .val (.int (1 : Int32)), .val (.ref o1_), .val (.int (1 : Int32)), .val (.int (6 : Int32)), .val (.int (0 : Int32)), .val (.int (102 : Int32))]) rfl ?_
    show Steps p.tables e below (T2.setTop (mkF m 38 #[.val (.ref o0_), .val (.int (1 : Int32)), .val (.ref o1_), .val (.int (1 : Int32)), .val (.int (6 : Int32)), .val (.int (0 : Int32)), .val (.int (102 : Int32))] [])) _
    refine XS.iinc X2.here hx rfl (hb hby d4_38) rfl (l' := #[.val (.ref o0_), .val (.int (1 : Int32)), .val (.ref o1_), .val (.int (1 : Int32)), .val (.int (6 : Int32)), .val (.int (1 : Int32)), .val (.int (102 : Int32))]) rfl ?_
    show Steps p.tables e below (T2.setTop (mkF m 41 #[.val (.ref o0_), .val (.int (1 : Int32)), .val (.ref o1_), .val (.int (1 : Int32)), .val (.int (6 : Int32)), .val (.int (1 : Int32)), .val (.int (102 : Int32))] [])) _
    refine XS.goto X2.here hx rfl (pc0 := 41) (pc' := 3) rfl (hb hby d4_41) (by decide) (by decide) ?_
    show Steps p.tables e below (T2.setTop (mkF m 3 #[.val (.ref o0_), .val (.int (1 : Int32)), .val (.ref o1_), .val (.int (1 : Int32)), .val (.int (6 : Int32)), .val (.int (1 : Int32)), .val (.int (102 : Int32))] [])) _
    refine XS.iload X2.here hx rfl (hb hby d4_3) rfl ?_
    show Steps p.tables e below (T2.setTop (mkF m 5 #[.val (.ref o0_), .val (.int (1 : Int32)), .val (.ref o1_), .val (.int (1 : Int32)), .val (.int (6 : Int32)), .val (.int (1 : Int32)), .val (.int (102 : Int32))] [(.int (1 : Int32))])) _
    refine XS.iload X2.here hx rfl (hb hby d4_5) rfl ?_
    show Steps p.tables e below (T2.setTop (mkF m 7 #[.val (.ref o0_), .val (.int (1 : Int32)), .val (.ref o1_), .val (.int (1 : Int32)), .val (.int (6 : Int32)), .val (.int (1 : Int32)), .val (.int (102 : Int32))] [(.int (6 : Int32)), (.int (1 : Int32))])) _
    refine XS.icmpNo X2.here hx rfl (hb hby d4_7) rfl (tlt (by decide : (1 : Int32) < (6 : Int32))).2.1 ?_
    show Steps p.tables e below (T2.setTop (mkF m 10 #[.val (.ref o0_), .val (.int (1 : Int32)), .val (.ref o1_), .val (.int (1 : Int32)), .val (.int (6 : Int32)), .val (.int (1 : Int32)), .val (.int (102 : Int32))] [])) _
    refine XS.aloadN X2.here hx rfl (hb hby d4_10) rfl rfl ?_
    show Steps p.tables e below (T2.setTop (mkF m 11 #[.val (.ref o0_), .val (.int (1 : Int32)), .val (.ref o1_), .val (.int (1 : Int32)), .val (.int (6 : Int32)), .val (.int (1 : Int32)), .val (.int (102 : Int32))] [(.ref o0_)])) _
    refine XS.iloadN X2.here hx rfl (hb hby d4_11) rfl ?_
    show Steps p.tables e below (T2.setTop (mkF m 12 #[.val (.ref o0_), .val (.int (1 : Int32)), .val (.ref o1_), .val (.int (1 : Int32)), .val (.int (6 : Int32)), .val (.int (1 : Int32)), .val (.int (102 : Int32))] [(.int (1 : Int32)), (.ref o0_)])) _
    refine X2.caload hx (j := (1 : Int32)) (v := (.int (97 : Int32))) (by rw [e2]; exact r7.1) (State.isArrayOf_alike hZ.alike r7.2.1) r7.2.2 hin7 hat7 (g := (mkF m 12 #[.val (.ref o0_), .val (.int (1 : Int32)), .val (.ref o1_), .val (.int (1 : Int32)), .val (.int (6 : Int32)), .val (.int (1 : Int32)), .val (.int (102 : Int32))] [(.int (1 : Int32)), (.ref o0_)])) rfl rfl (hb hby d4_12) _ ?_
    show Steps p.tables e below (T2.setTop (mkF m 13 #[.val (.ref o0_), .val (.int (1 : Int32)), .val (.ref o1_), .val (.int (1 : Int32)), .val (.int (6 : Int32)), .val (.int (1 : Int32)), .val (.int (102 : Int32))] [(.int (97 : Int32))])) _
    refine XS.istore X2.here hx rfl (hb hby d4_13) rfl (l' := #[.val (.ref o0_), .val (.int (1 : Int32)), .val (.ref o1_), .val (.int (1 : Int32)), .val (.int (6 : Int32)), .val (.int (1 : Int32)), .val (.int (97 : Int32))]) rfl ?_
    show Steps p.tables e below (T2.setTop (mkF m 15 #[.val (.ref o0_), .val (.int (1 : Int32)), .val (.ref o1_), .val (.int (1 : Int32)), .val (.int (6 : Int32)), .val (.int (1 : Int32)), .val (.int (97 : Int32))] [])) _
    refine XS.iload X2.here hx rfl (hb hby d4_15) rfl ?_
    show Steps p.tables e below (T2.setTop (mkF m 17 #[.val (.ref o0_), .val (.int (1 : Int32)), .val (.ref o1_), .val (.int (1 : Int32)), .val (.int (6 : Int32)), .val (.int (1 : Int32)), .val (.int (97 : Int32))] [(.int (97 : Int32))])) _
    refine XS.sipush X2.here hx rfl (hb hby d4_17) ?_
    show Steps p.tables e below (T2.setTop (mkF m 20 #[.val (.ref o0_), .val (.int (1 : Int32)), .val (.ref o1_), .val (.int (1 : Int32)), .val (.int (6 : Int32)), .val (.int (1 : Int32)), .val (.int (97 : Int32))] [(.int (255 : Int32)), (.int (97 : Int32))])) _
    refine XS.icmpYes X2.here hx rfl (pc0 := 20) (pc' := 26) rfl (hb hby d4_20) rfl (flt (by decide : ¬ ((255 : Int32) < (97 : Int32)))).2.2.2 (by decide) (by decide) ?_
    show Steps p.tables e below (T2.setTop (mkF m 26 #[.val (.ref o0_), .val (.int (1 : Int32)), .val (.ref o1_), .val (.int (1 : Int32)), .val (.int (6 : Int32)), .val (.int (1 : Int32)), .val (.int (97 : Int32))] [])) _
    refine XS.aloadN X2.here hx rfl (hb hby d4_26) rfl rfl ?_
    show Steps p.tables e below (T2.setTop (mkF m 27 #[.val (.ref o0_), .val (.int (1 : Int32)), .val (.ref o1_), .val (.int (1 : Int32)), .val (.int (6 : Int32)), .val (.int (1 : Int32)), .val (.int (97 : Int32))] [(.ref o1_)])) _
    refine XS.iloadN X2.here hx rfl (hb hby d4_27) rfl ?_
    show Steps p.tables e below (T2.setTop (mkF m 28 #[.val (.ref o0_), .val (.int (1 : Int32)), .val (.ref o1_), .val (.int (1 : Int32)), .val (.int (6 : Int32)), .val (.int (1 : Int32)), .val (.int (97 : Int32))] [(.int (1 : Int32)), (.ref o1_)])) _
    refine XS.iload X2.here hx rfl (hb hby d4_28) rfl ?_
    show Steps p.tables e below (T2.setTop (mkF m 30 #[.val (.ref o0_), .val (.int (1 : Int32)), .val (.ref o1_), .val (.int (1 : Int32)), .val (.int (6 : Int32)), .val (.int (1 : Int32)), .val (.int (97 : Int32))] [(.int (97 : Int32)), (.int (1 : Int32)), (.ref o1_)])) _
    refine XS.i2b X2.here hx rfl (hb hby d4_30) rfl ?_
    show Steps p.tables e below (T2.setTop (mkF m 31 #[.val (.ref o0_), .val (.int (1 : Int32)), .val (.ref o1_), .val (.int (1 : Int32)), .val (.int (6 : Int32)), .val (.int (1 : Int32)), .val (.int (97 : Int32))] [(.int (97 : Int32)), (.int (1 : Int32)), (.ref o1_)])) _
    refine st8 _ ?_
    show Steps p.tables e below (T8.setTop (mkF m 32 #[.val (.ref o0_), .val (.int (1 : Int32)), .val (.ref o1_), .val (.int (1 : Int32)), .val (.int (6 : Int32)), .val (.int (1 : Int32)), .val (.int (97 : Int32))] [])) _
    refine XS.iinc X8.here hx rfl (hb hby d4_32) rfl (l' := #[.val (.ref o0_), .val (.int (2 : Int32)), .val (.ref o1_), .val (.int (1 : Int32)), .val (.int (6 : Int32)), .val (.int (1 : Int32)), .val (.int (97 : Int32))]) rfl ?_
    show Steps p.tables e below (T8.setTop (mkF m 35 #[.val (.ref o0_), .val (.int (2 : Int32)), .val (.ref o1_), .val (.int (1 : Int32)), .val (.int (6 : Int32)), .val (.int (1 : Int32)), .val (.int (97 : Int32))] [])) _
    refine XS.iinc X8.here hx rfl (hb hby d4_35) rfl (l' := #[.val (.ref o0_), .val (.int (2 : Int32)), .val (.ref o1_), .val (.int (2 : Int32)), .val (.int (6 : Int32)), .val (.int (1 : Int32)), .val (.int (97 : Int32))]) rfl ?_
    show Steps p.tables e below (T8.setTop (mkF m 38 #[.val (.ref o0_), .val (.int (2 : Int32)), .val (.ref o1_), .val (.int (2 : Int32)), .val (.int (6 : Int32)), .val (.int (1 : Int32)), .val (.int (97 : Int32))] [])) _
    refine XS.iinc X8.here hx rfl (hb hby d4_38) rfl (l' := #[.val (.ref o0_), .val (.int (2 : Int32)), .val (.ref o1_), .val (.int (2 : Int32)), .val (.int (6 : Int32)), .val (.int (2 : Int32)), .val (.int (97 : Int32))]) rfl ?_
    show Steps p.tables e below (T8.setTop (mkF m 41 #[.val (.ref o0_), .val (.int (2 : Int32)), .val (.ref o1_), .val (.int (2 : Int32)), .val (.int (6 : Int32)), .val (.int (2 : Int32)), .val (.int (97 : Int32))] [])) _
    refine XS.goto X8.here hx rfl (pc0 := 41) (pc' := 3) rfl (hb hby d4_41) (by decide) (by decide) ?_
    show Steps p.tables e below (T8.setTop (mkF m 3 #[.val (.ref o0_), .val (.int (2 : Int32)), .val (.ref o1_), .val (.int (2 : Int32)), .val (.int (6 : Int32)), .val (.int (2 : Int32)), .val (.int (97 : Int32))] [])) _
    refine XS.iload X8.here hx rfl (hb hby d4_3) rfl ?_
    show Steps p.tables e below (T8.setTop (mkF m 5 #[.val (.ref o0_), .val (.int (2 : Int32)), .val (.ref o1_), .val (.int (2 : Int32)), .val (.int (6 : Int32)), .val (.int (2 : Int32)), .val (.int (97 : Int32))] [(.int (2 : Int32))])) _
    refine XS.iload X8.here hx rfl (hb hby d4_5) rfl ?_
    show Steps p.tables e below (T8.setTop (mkF m 7 #[.val (.ref o0_), .val (.int (2 : Int32)), .val (.ref o1_), .val (.int (2 : Int32)), .val (.int (6 : Int32)), .val (.int (2 : Int32)), .val (.int (97 : Int32))] [(.int (6 : Int32)), (.int (2 : Int32))])) _
    refine XS.icmpNo X8.here hx rfl (hb hby d4_7) rfl (tlt (by decide : (2 : Int32) < (6 : Int32))).2.1 ?_
    show Steps p.tables e below (T8.setTop (mkF m 10 #[.val (.ref o0_), .val (.int (2 : Int32)), .val (.ref o1_), .val (.int (2 : Int32)), .val (.int (6 : Int32)), .val (.int (2 : Int32)), .val (.int (97 : Int32))] [])) _
    refine XS.aloadN X8.here hx rfl (hb hby d4_10) rfl rfl ?_
    show Steps p.tables e below (T8.setTop (mkF m 11 #[.val (.ref o0_), .val (.int (2 : Int32)), .val (.ref o1_), .val (.int (2 : Int32)), .val (.int (6 : Int32)), .val (.int (2 : Int32)), .val (.int (97 : Int32))] [(.ref o0_)])) _
    refine XS.iloadN X8.here hx rfl (hb hby d4_11) rfl ?_
    show Steps p.tables e below (T8.setTop (mkF m 12 #[.val (.ref o0_), .val (.int (2 : Int32)), .val (.ref o1_), .val (.int (2 : Int32)), .val (.int (6 : Int32)), .val (.int (2 : Int32)), .val (.int (97 : Int32))] [(.int (2 : Int32)), (.ref o0_)])) _
    refine X8.caload hx (j := (2 : Int32)) (v := (.int (105 : Int32))) (by rw [e8]; exact r13.1) (State.isArrayOf_alike hZ.alike r13.2.1) r13.2.2 hin13 hat13 (g := (mkF m 12 #[.val (.ref o0_), .val (.int (2 : Int32)), .val (.ref o1_), .val (.int (2 : Int32)), .val (.int (6 : Int32)), .val (.int (2 : Int32)), .val (.int (97 : Int32))] [(.int (2 : Int32)), (.ref o0_)])) rfl rfl (hb hby d4_12) _ ?_
    show Steps p.tables e below (T8.setTop (mkF m 13 #[.val (.ref o0_), .val (.int (2 : Int32)), .val (.ref o1_), .val (.int (2 : Int32)), .val (.int (6 : Int32)), .val (.int (2 : Int32)), .val (.int (97 : Int32))] [(.int (105 : Int32))])) _
    refine XS.istore X8.here hx rfl (hb hby d4_13) rfl (l' := #[.val (.ref o0_), .val (.int (2 : Int32)), .val (.ref o1_), .val (.int (2 : Int32)), .val (.int (6 : Int32)), .val (.int (2 : Int32)), .val (.int (105 : Int32))]) rfl ?_
    show Steps p.tables e below (T8.setTop (mkF m 15 #[.val (.ref o0_), .val (.int (2 : Int32)), .val (.ref o1_), .val (.int (2 : Int32)), .val (.int (6 : Int32)), .val (.int (2 : Int32)), .val (.int (105 : Int32))] [])) _
    refine XS.iload X8.here hx rfl (hb hby d4_15) rfl ?_
    show Steps p.tables e below (T8.setTop (mkF m 17 #[.val (.ref o0_), .val (.int (2 : Int32)), .val (.ref o1_), .val (.int (2 : Int32)), .val (.int (6 : Int32)), .val (.int (2 : Int32)), .val (.int (105 : Int32))] [(.int (105 : Int32))])) _
    refine XS.sipush X8.here hx rfl (hb hby d4_17) ?_
    show Steps p.tables e below (T8.setTop (mkF m 20 #[.val (.ref o0_), .val (.int (2 : Int32)), .val (.ref o1_), .val (.int (2 : Int32)), .val (.int (6 : Int32)), .val (.int (2 : Int32)), .val (.int (105 : Int32))] [(.int (255 : Int32)), (.int (105 : Int32))])) _
    refine XS.icmpYes X8.here hx rfl (pc0 := 20) (pc' := 26) rfl (hb hby d4_20) rfl (flt (by decide : ¬ ((255 : Int32) < (105 : Int32)))).2.2.2 (by decide) (by decide) ?_
    show Steps p.tables e below (T8.setTop (mkF m 26 #[.val (.ref o0_), .val (.int (2 : Int32)), .val (.ref o1_), .val (.int (2 : Int32)), .val (.int (6 : Int32)), .val (.int (2 : Int32)), .val (.int (105 : Int32))] [])) _
    refine XS.aloadN X8.here hx rfl (hb hby d4_26) rfl rfl ?_
    show Steps p.tables e below (T8.setTop (mkF m 27 #[.val (.ref o0_), .val (.int (2 : Int32)), .val (.ref o1_), .val (.int (2 : Int32)), .val (.int (6 : Int32)), .val (.int (2 : Int32)), .val (.int (105 : Int32))] [(.ref o1_)])) _
    refine XS.iloadN X8.here hx rfl (hb hby d4_27) rfl ?_
    show Steps p.tables e below (T8.setTop (mkF m 28 #[.val (.ref o0_), .val (.int (2 : Int32)), .val (.ref o1_), .val (.int (2 : Int32)), .val (.int (6 : Int32)), .val (.int (2 : Int32)), .val (.int (105 : Int32))] [(.int (2 : Int32)), (.ref o1_)])) _
    refine XS.iload X8.here hx rfl (hb hby d4_28) rfl ?_
    show Steps p.tables e below (T8.setTop (mkF m 30 #[.val (.ref o0_), .val (.int (2 : Int32)), .val (.ref o1_), .val (.int (2 : Int32)), .val (.int (6 : Int32)), .val (.int (2 : Int32)), .val (.int (105 : Int32))] [(.int (105 : Int32)), (.int (2 : Int32)), (.ref o1_)])) _
    refine XS.i2b X8.here hx rfl (hb hby d4_30) rfl ?_
    show Steps p.tables e below (T8.setTop (mkF m 31 #[.val (.ref o0_), .val (.int (2 : Int32)), .val (.ref o1_), .val (.int (2 : Int32)), .val (.int (6 : Int32)), .val (.int (2 : Int32)), .val (.int (105 : Int32))] [(.int (105 : Int32)), (.int (2 : Int32)), (.ref o1_)])) _
    refine st14 _ ?_
    show Steps p.tables e below (T14.setTop (mkF m 32 #[.val (.ref o0_), .val (.int (2 : Int32)), .val (.ref o1_), .val (.int (2 : Int32)), .val (.int (6 : Int32)), .val (.int (2 : Int32)), .val (.int (105 : Int32))] [])) _
    refine XS.iinc X14.here hx rfl (hb hby d4_32) rfl (l' := #[.val (.ref o0_), .val (.int (3 : Int32)), .val (.ref o1_), .val (.int (2 : Int32)), .val (.int (6 : Int32)), .val (.int (2 : Int32)), .val (.int (105 : Int32))]) rfl ?_
    show Steps p.tables e below (T14.setTop (mkF m 35 #[.val (.ref o0_), .val (.int (3 : Int32)), .val (.ref o1_), .val (.int (2 : Int32)), .val (.int (6 : Int32)), .val (.int (2 : Int32)), .val (.int (105 : Int32))] [])) _
    refine XS.iinc X14.here hx rfl (hb hby d4_35) rfl (l' := #[.val (.ref o0_), .val (.int (3 : Int32)), .val (.ref o1_), .val (.int (3 : Int32)), .val (.int (6 : Int32)), .val (.int (2 : Int32)), .val (.int (105 : Int32))]) rfl ?_
    show Steps p.tables e below (T14.setTop (mkF m 38 #[.val (.ref o0_), .val (.int (3 : Int32)), .val (.ref o1_), .val (.int (3 : Int32)), .val (.int (6 : Int32)), .val (.int (2 : Int32)), .val (.int (105 : Int32))] [])) _
    refine XS.iinc X14.here hx rfl (hb hby d4_38) rfl (l' := #[.val (.ref o0_), .val (.int (3 : Int32)), .val (.ref o1_), .val (.int (3 : Int32)), .val (.int (6 : Int32)), .val (.int (3 : Int32)), .val (.int (105 : Int32))]) rfl ?_
    show Steps p.tables e below (T14.setTop (mkF m 41 #[.val (.ref o0_), .val (.int (3 : Int32)), .val (.ref o1_), .val (.int (3 : Int32)), .val (.int (6 : Int32)), .val (.int (3 : Int32)), .val (.int (105 : Int32))] [])) _
    refine XS.goto X14.here hx rfl (pc0 := 41) (pc' := 3) rfl (hb hby d4_41) (by decide) (by decide) ?_
    show Steps p.tables e below (T14.setTop (mkF m 3 #[.val (.ref o0_), .val (.int (3 : Int32)), .val (.ref o1_), .val (.int (3 : Int32)), .val (.int (6 : Int32)), .val (.int (3 : Int32)), .val (.int (105 : Int32))] [])) _
    refine XS.iload X14.here hx rfl (hb hby d4_3) rfl ?_
    show Steps p.tables e below (T14.setTop (mkF m 5 #[.val (.ref o0_), .val (.int (3 : Int32)), .val (.ref o1_), .val (.int (3 : Int32)), .val (.int (6 : Int32)), .val (.int (3 : Int32)), .val (.int (105 : Int32))] [(.int (3 : Int32))])) _
    refine XS.iload X14.here hx rfl (hb hby d4_5) rfl ?_
    show Steps p.tables e below (T14.setTop (mkF m 7 #[.val (.ref o0_), .val (.int (3 : Int32)), .val (.ref o1_), .val (.int (3 : Int32)), .val (.int (6 : Int32)), .val (.int (3 : Int32)), .val (.int (105 : Int32))] [(.int (6 : Int32)), (.int (3 : Int32))])) _
    refine XS.icmpNo X14.here hx rfl (hb hby d4_7) rfl (tlt (by decide : (3 : Int32) < (6 : Int32))).2.1 ?_
    show Steps p.tables e below (T14.setTop (mkF m 10 #[.val (.ref o0_), .val (.int (3 : Int32)), .val (.ref o1_), .val (.int (3 : Int32)), .val (.int (6 : Int32)), .val (.int (3 : Int32)), .val (.int (105 : Int32))] [])) _
    refine XS.aloadN X14.here hx rfl (hb hby d4_10) rfl rfl ?_
    show Steps p.tables e below (T14.setTop (mkF m 11 #[.val (.ref o0_), .val (.int (3 : Int32)), .val (.ref o1_), .val (.int (3 : Int32)), .val (.int (6 : Int32)), .val (.int (3 : Int32)), .val (.int (105 : Int32))] [(.ref o0_)])) _
    refine XS.iloadN X14.here hx rfl (hb hby d4_11) rfl ?_
    show Steps p.tables e below (T14.setTop (mkF m 12 #[.val (.ref o0_), .val (.int (3 : Int32)), .val (.ref o1_), .val (.int (3 : Int32)), .val (.int (6 : Int32)), .val (.int (3 : Int32)), .val (.int (105 : Int32))] [(.int (3 : Int32)), (.ref o0_)])) _
    refine X14.caload hx (j := (3 : Int32)) (v := (.int (108 : Int32))) (by rw [e14]; exact r19.1) (State.isArrayOf_alike hZ.alike r19.2.1) r19.2.2 hin19 hat19 (g := (mkF m 12 #[.val (.ref o0_), .val (.int (3 : Int32)), .val (.ref o1_), .val (.int (3 : Int32)), .val (.int (6 : Int32)), .val (.int (3 : Int32)), .val (.int (105 : Int32))] [(.int (3 : Int32)), (.ref o0_)])) rfl rfl (hb hby d4_12) _ ?_
    show Steps p.tables e below (T14.setTop (mkF m 13 #[.val (.ref o0_), .val (.int (3 : Int32)), .val (.ref o1_), .val (.int (3 : Int32)), .val (.int (6 : Int32)), .val (.int (3 : Int32)), .val (.int (105 : Int32))] [(.int (108 : Int32))])) _
    refine XS.istore X14.here hx rfl (hb hby d4_13) rfl (l' := #[.val (.ref o0_), .val (.int (3 : Int32)), .val (.ref o1_), .val (.int (3 : Int32)), .val (.int (6 : Int32)), .val (.int (3 : Int32)), .val (.int (108 : Int32))]) rfl ?_
    show Steps p.tables e below (T14.setTop (mkF m 15 #[.val (.ref o0_), .val (.int (3 : Int32)), .val (.ref o1_), .val (.int (3 : Int32)), .val (.int (6 : Int32)), .val (.int (3 : Int32)), .val (.int (108 : Int32))] [])) _
    refine XS.iload X14.here hx rfl (hb hby d4_15) rfl ?_
    show Steps p.tables e below (T14.setTop (mkF m 17 #[.val (.ref o0_), .val (.int (3 : Int32)), .val (.ref o1_), .val (.int (3 : Int32)), .val (.int (6 : Int32)), .val (.int (3 : Int32)), .val (.int (108 : Int32))] [(.int (108 : Int32))])) _
    refine XS.sipush X14.here hx rfl (hb hby d4_17) ?_
    show Steps p.tables e below (T14.setTop (mkF m 20 #[.val (.ref o0_), .val (.int (3 : Int32)), .val (.ref o1_), .val (.int (3 : Int32)), .val (.int (6 : Int32)), .val (.int (3 : Int32)), .val (.int (108 : Int32))] [(.int (255 : Int32)), (.int (108 : Int32))])) _
    refine XS.icmpYes X14.here hx rfl (pc0 := 20) (pc' := 26) rfl (hb hby d4_20) rfl (flt (by decide : ¬ ((255 : Int32) < (108 : Int32)))).2.2.2 (by decide) (by decide) ?_
    show Steps p.tables e below (T14.setTop (mkF m 26 #[.val (.ref o0_), .val (.int (3 : Int32)), .val (.ref o1_), .val (.int (3 : Int32)), .val (.int (6 : Int32)), .val (.int (3 : Int32)), .val (.int (108 : Int32))] [])) _
    refine XS.aloadN X14.here hx rfl (hb hby d4_26) rfl rfl ?_
    show Steps p.tables e below (T14.setTop (mkF m 27 #[.val (.ref o0_), .val (.int (3 : Int32)), .val (.ref o1_), .val (.int (3 : Int32)), .val (.int (6 : Int32)), .val (.int (3 : Int32)), .val (.int (108 : Int32))] [(.ref o1_)])) _
    refine XS.iloadN X14.here hx rfl (hb hby d4_27) rfl ?_
    show Steps p.tables e below (T14.setTop (mkF m 28 #[.val (.ref o0_), .val (.int (3 : Int32)), .val (.ref o1_), .val (.int (3 : Int32)), .val (.int (6 : Int32)), .val (.int (3 : Int32)), .val (.int (108 : Int32))] [(.int (3 : Int32)), (.ref o1_)])) _
    refine XS.iload X14.here hx rfl (hb hby d4_28) rfl ?_
    show Steps p.tables e below (T14.setTop (mkF m 30 #[.val (.ref o0_), .val (.int (3 : Int32)), .val (.ref o1_), .val (.int (3 : Int32)), .val (.int (6 : Int32)), .val (.int (3 : Int32)), .val (.int (108 : Int32))] [(.int (108 : Int32)), (.int (3 : Int32)), (.ref o1_)])) _
    refine XS.i2b X14.here hx rfl (hb hby d4_30) rfl ?_
    show Steps p.tables e below (T14.setTop (mkF m 31 #[.val (.ref o0_), .val (.int (3 : Int32)), .val (.ref o1_), .val (.int (3 : Int32)), .val (.int (6 : Int32)), .val (.int (3 : Int32)), .val (.int (108 : Int32))] [(.int (108 : Int32)), (.int (3 : Int32)), (.ref o1_)])) _
    refine st20 _ ?_
    show Steps p.tables e below (T20.setTop (mkF m 32 #[.val (.ref o0_), .val (.int (3 : Int32)), .val (.ref o1_), .val (.int (3 : Int32)), .val (.int (6 : Int32)), .val (.int (3 : Int32)), .val (.int (108 : Int32))] [])) _
    refine XS.iinc X20.here hx rfl (hb hby d4_32) rfl (l' := #[.val (.ref o0_), .val (.int (4 : Int32)), .val (.ref o1_), .val (.int (3 : Int32)), .val (.int (6 : Int32)), .val (.int (3 : Int32)), .val (.int (108 : Int32))]) rfl ?_
    show Steps p.tables e below (T20.setTop (mkF m 35 #[.val (.ref o0_), .val (.int (4 : Int32)), .val (.ref o1_), .val (.int (3 : Int32)), .val (.int (6 : Int32)), .val (.int (3 : Int32)), .val (.int (108 : Int32))] [])) _
    refine XS.iinc X20.here hx rfl (hb hby d4_35) rfl (l' := #[.val (.ref o0_), .val (.int (4 : Int32)), .val (.ref o1_), .val (.int (4 : Int32)), .val (.int (6 : Int32)), .val (.int (3 : Int32)), .val (.int (108 : Int32))]) rfl ?_
    show Steps p.tables e below (T20.setTop (mkF m 38 #[.val (.ref o0_), .val (.int (4 : Int32)), .val (.ref o1_), .val (.int (4 : Int32)), .val (.int (6 : Int32)), .val (.int (3 : Int32)), .val (.int (108 : Int32))] [])) _
    refine XS.iinc X20.here hx rfl (hb hby d4_38) rfl (l' := #[.val (.ref o0_), .val (.int (4 : Int32)), .val (.ref o1_), .val (.int (4 : Int32)), .val (.int (6 : Int32)), .val (.int (4 : Int32)), .val (.int (108 : Int32))]) rfl ?_
    show Steps p.tables e below (T20.setTop (mkF m 41 #[.val (.ref o0_), .val (.int (4 : Int32)), .val (.ref o1_), .val (.int (4 : Int32)), .val (.int (6 : Int32)), .val (.int (4 : Int32)), .val (.int (108 : Int32))] [])) _
    refine XS.goto X20.here hx rfl (pc0 := 41) (pc' := 3) rfl (hb hby d4_41) (by decide) (by decide) ?_
    show Steps p.tables e below (T20.setTop (mkF m 3 #[.val (.ref o0_), .val (.int (4 : Int32)), .val (.ref o1_), .val (.int (4 : Int32)), .val (.int (6 : Int32)), .val (.int (4 : Int32)), .val (.int (108 : Int32))] [])) _
    refine XS.iload X20.here hx rfl (hb hby d4_3) rfl ?_
    show Steps p.tables e below (T20.setTop (mkF m 5 #[.val (.ref o0_), .val (.int (4 : Int32)), .val (.ref o1_), .val (.int (4 : Int32)), .val (.int (6 : Int32)), .val (.int (4 : Int32)), .val (.int (108 : Int32))] [(.int (4 : Int32))])) _
    refine XS.iload X20.here hx rfl (hb hby d4_5) rfl ?_
    show Steps p.tables e below (T20.setTop (mkF m 7 #[.val (.ref o0_), .val (.int (4 : Int32)), .val (.ref o1_), .val (.int (4 : Int32)), .val (.int (6 : Int32)), .val (.int (4 : Int32)), .val (.int (108 : Int32))] [(.int (6 : Int32)), (.int (4 : Int32))])) _
    refine XS.icmpNo X20.here hx rfl (hb hby d4_7) rfl (tlt (by decide : (4 : Int32) < (6 : Int32))).2.1 ?_
    show Steps p.tables e below (T20.setTop (mkF m 10 #[.val (.ref o0_), .val (.int (4 : Int32)), .val (.ref o1_), .val (.int (4 : Int32)), .val (.int (6 : Int32)), .val (.int (4 : Int32)), .val (.int (108 : Int32))] [])) _
    refine XS.aloadN X20.here hx rfl (hb hby d4_10) rfl rfl ?_
    show Steps p.tables e below (T20.setTop (mkF m 11 #[.val (.ref o0_), .val (.int (4 : Int32)), .val (.ref o1_), .val (.int (4 : Int32)), .val (.int (6 : Int32)), .val (.int (4 : Int32)), .val (.int (108 : Int32))] [(.ref o0_)])) _
    refine XS.iloadN X20.here hx rfl (hb hby d4_11) rfl ?_
    show Steps p.tables e below (T20.setTop (mkF m 12 #[.val (.ref o0_), .val (.int (4 : Int32)), .val (.ref o1_), .val (.int (4 : Int32)), .val (.int (6 : Int32)), .val (.int (4 : Int32)), .val (.int (108 : Int32))] [(.int (4 : Int32)), (.ref o0_)])) _
    refine X20.caload hx (j := (4 : Int32)) (v := (.int (101 : Int32))) (by rw [e20]; exact r25.1) (State.isArrayOf_alike hZ.alike r25.2.1) r25.2.2 hin25 hat25 (g := (mkF m 12 #[.val (.ref o0_), .val (.int (4 : Int32)), .val (.ref o1_), .val (.int (4 : Int32)), .val (.int (6 : Int32)), .val (.int (4 : Int32)), .val (.int (108 : Int32))] [(.int (4 : Int32)), (.ref o0_)])) rfl rfl (hb hby d4_12) _ ?_
    show Steps p.tables e below (T20.setTop (mkF m 13 #[.val (.ref o0_), .val (.int (4 : Int32)), .val (.ref o1_), .val (.int (4 : Int32)), .val (.int (6 : Int32)), .val (.int (4 : Int32)), .val (.int (108 : Int32))] [(.int (101 : Int32))])) _
    refine XS.istore X20.here hx rfl (hb hby d4_13) rfl (l' := #[.val (.ref o0_), .val (.int (4 : Int32)), .val (.ref o1_), .val (.int (4 : Int32)), .val (.int (6 : Int32)), .val (.int (4 : Int32)), .val (.int (101 : Int32))]) rfl ?_
    show Steps p.tables e below (T20.setTop (mkF m 15 #[.val (.ref o0_), .val (.int (4 : Int32)), .val (.ref o1_), .val (.int (4 : Int32)), .val (.int (6 : Int32)), .val (.int (4 : Int32)), .val (.int (101 : Int32))] [])) _
    refine XS.iload X20.here hx rfl (hb hby d4_15) rfl ?_
    show Steps p.tables e below (T20.setTop (mkF m 17 #[.val (.ref o0_), .val (.int (4 : Int32)), .val (.ref o1_), .val (.int (4 : Int32)), .val (.int (6 : Int32)), .val (.int (4 : Int32)), .val (.int (101 : Int32))] [(.int (101 : Int32))])) _
    refine XS.sipush X20.here hx rfl (hb hby d4_17) ?_
    show Steps p.tables e below (T20.setTop (mkF m 20 #[.val (.ref o0_), .val (.int (4 : Int32)), .val (.ref o1_), .val (.int (4 : Int32)), .val (.int (6 : Int32)), .val (.int (4 : Int32)), .val (.int (101 : Int32))] [(.int (255 : Int32)), (.int (101 : Int32))])) _
    refine XS.icmpYes X20.here hx rfl (pc0 := 20) (pc' := 26) rfl (hb hby d4_20) rfl (flt (by decide : ¬ ((255 : Int32) < (101 : Int32)))).2.2.2 (by decide) (by decide) ?_
    show Steps p.tables e below (T20.setTop (mkF m 26 #[.val (.ref o0_), .val (.int (4 : Int32)), .val (.ref o1_), .val (.int (4 : Int32)), .val (.int (6 : Int32)), .val (.int (4 : Int32)), .val (.int (101 : Int32))] [])) _
    refine XS.aloadN X20.here hx rfl (hb hby d4_26) rfl rfl ?_
    show Steps p.tables e below (T20.setTop (mkF m 27 #[.val (.ref o0_), .val (.int (4 : Int32)), .val (.ref o1_), .val (.int (4 : Int32)), .val (.int (6 : Int32)), .val (.int (4 : Int32)), .val (.int (101 : Int32))] [(.ref o1_)])) _
    refine XS.iloadN X20.here hx rfl (hb hby d4_27) rfl ?_
    show Steps p.tables e below (T20.setTop (mkF m 28 #[.val (.ref o0_), .val (.int (4 : Int32)), .val (.ref o1_), .val (.int (4 : Int32)), .val (.int (6 : Int32)), .val (.int (4 : Int32)), .val (.int (101 : Int32))] [(.int (4 : Int32)), (.ref o1_)])) _
    refine XS.iload X20.here hx rfl (hb hby d4_28) rfl ?_
    show Steps p.tables e below (T20.setTop (mkF m 30 #[.val (.ref o0_), .val (.int (4 : Int32)), .val (.ref o1_), .val (.int (4 : Int32)), .val (.int (6 : Int32)), .val (.int (4 : Int32)), .val (.int (101 : Int32))] [(.int (101 : Int32)), (.int (4 : Int32)), (.ref o1_)])) _
    refine XS.i2b X20.here hx rfl (hb hby d4_30) rfl ?_
    show Steps p.tables e below (T20.setTop (mkF m 31 #[.val (.ref o0_), .val (.int (4 : Int32)), .val (.ref o1_), .val (.int (4 : Int32)), .val (.int (6 : Int32)), .val (.int (4 : Int32)), .val (.int (101 : Int32))] [(.int (101 : Int32)), (.int (4 : Int32)), (.ref o1_)])) _
    refine st26 _ ?_
    show Steps p.tables e below (T26.setTop (mkF m 32 #[.val (.ref o0_), .val (.int (4 : Int32)), .val (.ref o1_), .val (.int (4 : Int32)), .val (.int (6 : Int32)), .val (.int (4 : Int32)), .val (.int (101 : Int32))] [])) _
    refine XS.iinc X26.here hx rfl (hb hby d4_32) rfl (l' := #[.val (.ref o0_), .val (.int (5 : Int32)), .val (.ref o1_), .val (.int (4 : Int32)), .val (.int (6 : Int32)), .val (.int (4 : Int32)), .val (.int (101 : Int32))]) rfl ?_
    show Steps p.tables e below (T26.setTop (mkF m 35 #[.val (.ref o0_), .val (.int (5 : Int32)), .val (.ref o1_), .val (.int (4 : Int32)), .val (.int (6 : Int32)), .val (.int (4 : Int32)), .val (.int (101 : Int32))] [])) _
    refine XS.iinc X26.here hx rfl (hb hby d4_35) rfl (l' := #[.val (.ref o0_), .val (.int (5 : Int32)), .val (.ref o1_), .val (.int (5 : Int32)), .val (.int (6 : Int32)), .val (.int (4 : Int32)), .val (.int (101 : Int32))]) rfl ?_
    show Steps p.tables e below (T26.setTop (mkF m 38 #[.val (.ref o0_), .val (.int (5 : Int32)), .val (.ref o1_), .val (.int (5 : Int32)), .val (.int (6 : Int32)), .val (.int (4 : Int32)), .val (.int (101 : Int32))] [])) _
    refine XS.iinc X26.here hx rfl (hb hby d4_38) rfl (l' := #[.val (.ref o0_), .val (.int (5 : Int32)), .val (.ref o1_), .val (.int (5 : Int32)), .val (.int (6 : Int32)), .val (.int (5 : Int32)), .val (.int (101 : Int32))]) rfl ?_
    show Steps p.tables e below (T26.setTop (mkF m 41 #[.val (.ref o0_), .val (.int (5 : Int32)), .val (.ref o1_), .val (.int (5 : Int32)), .val (.int (6 : Int32)), .val (.int (5 : Int32)), .val (.int (101 : Int32))] [])) _
    refine XS.goto X26.here hx rfl (pc0 := 41) (pc' := 3) rfl (hb hby d4_41) (by decide) (by decide) ?_
    show Steps p.tables e below (T26.setTop (mkF m 3 #[.val (.ref o0_), .val (.int (5 : Int32)), .val (.ref o1_), .val (.int (5 : Int32)), .val (.int (6 : Int32)), .val (.int (5 : Int32)), .val (.int (101 : Int32))] [])) _
    refine XS.iload X26.here hx rfl (hb hby d4_3) rfl ?_
    show Steps p.tables e below (T26.setTop (mkF m 5 #[.val (.ref o0_), .val (.int (5 : Int32)), .val (.ref o1_), .val (.int (5 : Int32)), .val (.int (6 : Int32)), .val (.int (5 : Int32)), .val (.int (101 : Int32))] [(.int (5 : Int32))])) _
    refine XS.iload X26.here hx rfl (hb hby d4_5) rfl ?_
    show Steps p.tables e below (T26.setTop (mkF m 7 #[.val (.ref o0_), .val (.int (5 : Int32)), .val (.ref o1_), .val (.int (5 : Int32)), .val (.int (6 : Int32)), .val (.int (5 : Int32)), .val (.int (101 : Int32))] [(.int (6 : Int32)), (.int (5 : Int32))])) _
    refine XS.icmpNo X26.here hx rfl (hb hby d4_7) rfl (tlt (by decide : (5 : Int32) < (6 : Int32))).2.1 ?_
    show Steps p.tables e below (T26.setTop (mkF m 10 #[.val (.ref o0_), .val (.int (5 : Int32)), .val (.ref o1_), .val (.int (5 : Int32)), .val (.int (6 : Int32)), .val (.int (5 : Int32)), .val (.int (101 : Int32))] [])) _
    refine XS.aloadN X26.here hx rfl (hb hby d4_10) rfl rfl ?_
    show Steps p.tables e below (T26.setTop (mkF m 11 #[.val (.ref o0_), .val (.int (5 : Int32)), .val (.ref o1_), .val (.int (5 : Int32)), .val (.int (6 : Int32)), .val (.int (5 : Int32)), .val (.int (101 : Int32))] [(.ref o0_)])) _
    refine XS.iloadN X26.here hx rfl (hb hby d4_11) rfl ?_
    show Steps p.tables e below (T26.setTop (mkF m 12 #[.val (.ref o0_), .val (.int (5 : Int32)), .val (.ref o1_), .val (.int (5 : Int32)), .val (.int (6 : Int32)), .val (.int (5 : Int32)), .val (.int (101 : Int32))] [(.int (5 : Int32)), (.ref o0_)])) _
    refine X26.caload hx (j := (5 : Int32)) (v := (.int (100 : Int32))) (by rw [e26]; exact r31.1) (State.isArrayOf_alike hZ.alike r31.2.1) r31.2.2 hin31 hat31 (g := (mkF m 12 #[.val (.ref o0_), .val (.int (5 : Int32)), .val (.ref o1_), .val (.int (5 : Int32)), .val (.int (6 : Int32)), .val (.int (5 : Int32)), .val (.int (101 : Int32))] [(.int (5 : Int32)), (.ref o0_)])) rfl rfl (hb hby d4_12) _ ?_
    show Steps p.tables e below (T26.setTop (mkF m 13 #[.val (.ref o0_), .val (.int (5 : Int32)), .val (.ref o1_), .val (.int (5 : Int32)), .val (.int (6 : Int32)), .val (.int (5 : Int32)), .val (.int (101 : Int32))] [(.int (100 : Int32))])) _
    refine XS.istore X26.here hx rfl (hb hby d4_13) rfl (l' := #[.val (.ref o0_), .val (.int (5 : Int32)), .val (.ref o1_), .val (.int (5 : Int32)), .val (.int (6 : Int32)), .val (.int (5 : Int32)), .val (.int (100 : Int32))]) rfl ?_
    show Steps p.tables e below (T26.setTop (mkF m 15 #[.val (.ref o0_), .val (.int (5 : Int32)), .val (.ref o1_), .val (.int (5 : Int32)), .val (.int (6 : Int32)), .val (.int (5 : Int32)), .val (.int (100 : Int32))] [])) _
    refine XS.iload X26.here hx rfl (hb hby d4_15) rfl ?_
    show Steps p.tables e below (T26.setTop (mkF m 17 #[.val (.ref o0_), .val (.int (5 : Int32)), .val (.ref o1_), .val (.int (5 : Int32)), .val (.int (6 : Int32)), .val (.int (5 : Int32)), .val (.int (100 : Int32))] [(.int (100 : Int32))])) _
    refine XS.sipush X26.here hx rfl (hb hby d4_17) ?_
    show Steps p.tables e below (T26.setTop (mkF m 20 #[.val (.ref o0_), .val (.int (5 : Int32)), .val (.ref o1_), .val (.int (5 : Int32)), .val (.int (6 : Int32)), .val (.int (5 : Int32)), .val (.int (100 : Int32))] [(.int (255 : Int32)), (.int (100 : Int32))])) _
    refine XS.icmpYes X26.here hx rfl (pc0 := 20) (pc' := 26) rfl (hb hby d4_20) rfl (flt (by decide : ¬ ((255 : Int32) < (100 : Int32)))).2.2.2 (by decide) (by decide) ?_
    show Steps p.tables e below (T26.setTop (mkF m 26 #[.val (.ref o0_), .val (.int (5 : Int32)), .val (.ref o1_), .val (.int (5 : Int32)), .val (.int (6 : Int32)), .val (.int (5 : Int32)), .val (.int (100 : Int32))] [])) _
    refine XS.aloadN X26.here hx rfl (hb hby d4_26) rfl rfl ?_
    show Steps p.tables e below (T26.setTop (mkF m 27 #[.val (.ref o0_), .val (.int (5 : Int32)), .val (.ref o1_), .val (.int (5 : Int32)), .val (.int (6 : Int32)), .val (.int (5 : Int32)), .val (.int (100 : Int32))] [(.ref o1_)])) _
    refine XS.iloadN X26.here hx rfl (hb hby d4_27) rfl ?_
    show Steps p.tables e below (T26.setTop (mkF m 28 #[.val (.ref o0_), .val (.int (5 : Int32)), .val (.ref o1_), .val (.int (5 : Int32)), .val (.int (6 : Int32)), .val (.int (5 : Int32)), .val (.int (100 : Int32))] [(.int (5 : Int32)), (.ref o1_)])) _
    refine XS.iload X26.here hx rfl (hb hby d4_28) rfl ?_
    show Steps p.tables e below (T26.setTop (mkF m 30 #[.val (.ref o0_), .val (.int (5 : Int32)), .val (.ref o1_), .val (.int (5 : Int32)), .val (.int (6 : Int32)), .val (.int (5 : Int32)), .val (.int (100 : Int32))] [(.int (100 : Int32)), (.int (5 : Int32)), (.ref o1_)])) _
    refine XS.i2b X26.here hx rfl (hb hby d4_30) rfl ?_
    show Steps p.tables e below (T26.setTop (mkF m 31 #[.val (.ref o0_), .val (.int (5 : Int32)), .val (.ref o1_), .val (.int (5 : Int32)), .val (.int (6 : Int32)), .val (.int (5 : Int32)), .val (.int (100 : Int32))] [(.int (100 : Int32)), (.int (5 : Int32)), (.ref o1_)])) _
    refine st32 _ ?_
    show Steps p.tables e below (T32.setTop (mkF m 32 #[.val (.ref o0_), .val (.int (5 : Int32)), .val (.ref o1_), .val (.int (5 : Int32)), .val (.int (6 : Int32)), .val (.int (5 : Int32)), .val (.int (100 : Int32))] [])) _
    refine XS.iinc X32.here hx rfl (hb hby d4_32) rfl (l' := #[.val (.ref o0_), .val (.int (6 : Int32)), .val (.ref o1_), .val (.int (5 : Int32)), .val (.int (6 : Int32)), .val (.int (5 : Int32)), .val (.int (100 : Int32))]) rfl ?_
    show Steps p.tables e below (T32.setTop (mkF m 35 #[.val (.ref o0_), .val (.int (6 : Int32)), .val (.ref o1_), .val (.int (5 : Int32)), .val (.int (6 : Int32)), .val (.int (5 : Int32)), .val (.int (100 : Int32))] [])) _
    refine XS.iinc X32.here hx rfl (hb hby d4_35) rfl (l' := #[.val (.ref o0_), .val (.int (6 : Int32)), .val (.ref o1_), .val (.int (6 : Int32)), .val (.int (6 : Int32)), .val (.int (5 : Int32)), .val (.int (100 : Int32))]) rfl ?_
    show Steps p.tables e below (T32.setTop (mkF m 38 #[.val (.ref o0_), .val (.int (6 : Int32)), .val (.ref o1_), .val (.int (6 : Int32)), .val (.int (6 : Int32)), .val (.int (5 : Int32)), .val (.int (100 : Int32))] [])) _
    refine XS.iinc X32.here hx rfl (hb hby d4_38) rfl (l' := #[.val (.ref o0_), .val (.int (6 : Int32)), .val (.ref o1_), .val (.int (6 : Int32)), .val (.int (6 : Int32)), .val (.int (6 : Int32)), .val (.int (100 : Int32))]) rfl ?_
    show Steps p.tables e below (T32.setTop (mkF m 41 #[.val (.ref o0_), .val (.int (6 : Int32)), .val (.ref o1_), .val (.int (6 : Int32)), .val (.int (6 : Int32)), .val (.int (6 : Int32)), .val (.int (100 : Int32))] [])) _
    refine XS.goto X32.here hx rfl (pc0 := 41) (pc' := 3) rfl (hb hby d4_41) (by decide) (by decide) ?_
    show Steps p.tables e below (T32.setTop (mkF m 3 #[.val (.ref o0_), .val (.int (6 : Int32)), .val (.ref o1_), .val (.int (6 : Int32)), .val (.int (6 : Int32)), .val (.int (6 : Int32)), .val (.int (100 : Int32))] [])) _
    refine XS.iload X32.here hx rfl (hb hby d4_3) rfl ?_
    show Steps p.tables e below (T32.setTop (mkF m 5 #[.val (.ref o0_), .val (.int (6 : Int32)), .val (.ref o1_), .val (.int (6 : Int32)), .val (.int (6 : Int32)), .val (.int (6 : Int32)), .val (.int (100 : Int32))] [(.int (6 : Int32))])) _
    refine XS.iload X32.here hx rfl (hb hby d4_5) rfl ?_
    show Steps p.tables e below (T32.setTop (mkF m 7 #[.val (.ref o0_), .val (.int (6 : Int32)), .val (.ref o1_), .val (.int (6 : Int32)), .val (.int (6 : Int32)), .val (.int (6 : Int32)), .val (.int (100 : Int32))] [(.int (6 : Int32)), (.int (6 : Int32))])) _
    refine XS.icmpYes X32.here hx rfl (pc0 := 7) (pc' := 44) rfl (hb hby d4_7) rfl (flt (by decide : ¬ ((6 : Int32) < (6 : Int32)))).2.1 (by decide) (by decide) ?_
    show Steps p.tables e below (T32.setTop (mkF m 44 #[.val (.ref o0_), .val (.int (6 : Int32)), .val (.ref o1_), .val (.int (6 : Int32)), .val (.int (6 : Int32)), .val (.int (6 : Int32)), .val (.int (100 : Int32))] [])) _
    refine XS.iload X32.here hx rfl (hb hby d4_44) rfl ?_
    exact kt
  have f38 : Keep h0 h2 [o1_] := K0.wr W2 (Or.inl (List.mem_of_getElem? (i := 0) rfl))
  have f39 : Keep h0 h8 [o1_] := f38.wr W8 (Or.inl (List.mem_of_getElem? (i := 0) rfl))
  have f40 : Keep h0 h14 [o1_] := f39.wr W14 (Or.inl (List.mem_of_getElem? (i := 0) rfl))
  have f41 : Keep h0 h20 [o1_] := f40.wr W20 (Or.inl (List.mem_of_getElem? (i := 0) rfl))
  have f42 : Keep h0 h26 [o1_] := f41.wr W26 (Or.inl (List.mem_of_getElem? (i := 0) rfl))
  have f43 : Keep h0 h32 [o1_] := f42.wr W32 (Or.inl (List.mem_of_getElem? (i := 0) rfl))
  have f44 : Exa Z h2 o1_ "[B" := P3.wr W2
  have f45 : Exa Z h8 o1_ "[B" := f44.wr W8
  have f46 : Exa Z h14 o1_ "[B" := f45.wr W14
  have f47 : Exa Z h20 o1_ "[B" := f46.wr W20
  have f48 : Exa Z h26 o1_ "[B" := f47.wr W26
  have f49 : Exa Z h32 o1_ "[B" := f48.wr W32
  obtain ⟨fs, hr, hrun, hended, hW, hsame⟩ := X32.leave (v := some (.int (6 : Int32))) (fun h => by rw [Bd.returns] at h; cases h)
  refine ⟨_, _, pre36 _ (retOut X32 hx Bd.returns rfl (Or.inl ⟨rfl, Or.inl rfl, _, rfl⟩) (hb hby d4_46) hr), hrun, hended, _, _, rfl, ?_, ⟨_, rfl⟩, hW, hsame.mono (by decide) (by decide)⟩
  show Qcompress32 Z o0_ o1_ ko0_ ko1_ h0 n0 _ T32.heap _
  rw [e32]
  exact ⟨rfl, N33, f43, f35, f49⟩
theorem efcompress31 (m : MethodId) (o0_ : Addr) : entryFrame m #[(.ref o0_), (.int (0 : Int32)), (.int (6 : Int32))] 6 = mkF m 0 #[.val (.ref o0_), .val (.int (0 : Int32)), .val (.int (6 : Int32)), .unset, .unset, .unset] [] := by first | (simp [entryFrame, mkF, argsToLocals, Value.category]; done) | rfl
def Qcompress31 (Z : State) (o0_ : Addr) (ko0_ : ClassId) (h0 : Heap) (n0 : Nat) (v : Option Value) (h : Heap) (L : List Loc) : Prop := ∃ k1 : ClassId, ∃ nb1 : Addr, v = some (.ref nb1) ∧ Fr n0 L ∧ Keep h0 h [] ∧ h0.size ≤ nb1 ∧ Arv Z h nb1 k1 .byte (6 : Int32) [(.int (102 : Int32)), (.int (97 : Int32)), (.int (105 : Int32)), (.int (108 : Int32)), (.int (101 : Int32)), (.int (100 : Int32))] (.int (0 : Int32)) ∧ Exa Z h nb1 "[B"
set_option maxRecDepth 65536 in
set_option maxHeartbeats 40000000 in
theorem rmcompress31 (l : Launch) (Z : State) (a0 : Array Value) (hw : ∀ d ∈ tables_1, d.before a0 Z = true) (ws : List Jvm.Cond) (o0_ : Addr) (ko0_ : ClassId) (h0 : Heap) (n0 : Nat) (O0 : Old Z n0 h0) (P0 : Arv Z h0 o0_ ko0_ .char (6 : Int32) [(.int (102 : Int32)), (.int (97 : Int32)), (.int (105 : Int32)), (.int (108 : Int32)), (.int (101 : Int32)), (.int (100 : Int32))] (.int (0 : Int32))) (P1 : Exa Z h0 o0_ "[C") :
    MetFree l (⟨"java/lang/StringUTF16", "compress", "([CII)[B"⟩ : MethodName) (head1 (Jvm.Cond.code (⟨"java/lang/StringUTF16", "compress", "([CII)[B"⟩ : MethodName) jdk_52_method_16_code 6 (some (.array .byte)) :: ws) ({ frames := 1, cells := 1, slots := 6, locals := 18 } : Room)) (fun a U => a = #[(.ref o0_), (.int (0 : Int32)), (.int (6 : Int32))] ∧ Z.Warmed39 U.vm ∧ U.heap = h0) (fun _ _ _ _ _ => True) (fun _ U o U' => ∃ v L, o = .returned v ∧ Qcompress31 Z o0_ ko0_ h0 n0 v U'.heap L ∧ FrameEnd U o U' L ({ frames := 1, cells := 1, slots := 6, locals := 18 } : Room).cells ({ frames := 1, cells := 1, slots := 6, locals := 18 } : Room).slots) := by
  refine MetFree.of_bodySF (plainFor_of_name pn_0) hisR ?_
  intro p e s m args below meth c s₁ Bd hml0 hP hK
  obtain ⟨rfl, hZ, hh⟩ := hP
  have hx := Bd.exec
  have hby := Bd.bytes
  have hml : c.maxLocals = 6 := hml0
  have hown : s.vm.findClass "java/lang/StringUTF16" = some m.cls := findClass_of_methodNamed Bd.named
  have hnm := (name_of_methodNamed Bd.named Bd.method).1
  have X0 : Stand p l e ({ frames := 1, cells := 1, slots := 6, locals := 18 } : Room) s m #[(.ref o0_), (.int (0 : Int32)), (.int (6 : Int32))] below meth c s₁ [] 0 0 := Stand.of_body Bd
  have e0 : s₁.heap = h0 := by rw [← hh, Bd.state]; rfl
  have N0 := Fr.nil n0
  have pre0 : ∀ t, Steps p.tables e below (s₁.setTop (mkF m 0 #[.val (.ref o0_), .val (.int (0 : Int32)), .val (.int (6 : Int32)), .unset, .unset, .unset] [])) t → Steps p.tables e below (s₁.setTop (entryFrame m #[(.ref o0_), (.int (0 : Int32)), (.int (6 : Int32))] 6)) t := fun t k => castTop (efcompress31 m o0_) k
  have K0 : Keep h0 h0 [] := Keep.refl _ _
  obtain ⟨T1, h1, k1, X1, e1, E1, A1, Z1, st1⟩ := newPE X0 hx hZ (hw _ (List.mem_of_getElem? (i := 23) rfl)) e0 (g := (mkF m 1 #[.val (.ref o0_), .val (.int (0 : Int32)), .val (.int (6 : Int32)), .unset, .unset, .unset] [(.int (6 : Int32))])) rfl (hb hby d3_1) rfl (by decide) (cap := 6) (by decide) (by decide) (by decide) (by decide) (ad := "[B") (by decide)
  obtain ⟨b1, g1⟩ : ∃ z, z = h0.size := ⟨_, rfl⟩
  rw [← g1] at A1 Z1 st1
  have ge2 : n0 ≤ b1 := Nat.le_trans (Nat.le_trans (Nat.le_of_eq O0.1.symm) O0.2.1) (Nat.le_of_eq g1.symm)
  have sz3 : h0.size ≤ b1 := Nat.le_trans K0.1 (Nat.le_of_eq g1.symm)
  have f4 : Arv Z h1 b1 k1 .byte (6 : Int32) [(.int (0 : Int32)), (.int (0 : Int32)), (.int (0 : Int32)), (.int (0 : Int32)), (.int (0 : Int32)), (.int (0 : Int32))] (.int (0 : Int32)) := (Arv.new A1 (by decide)).pad (pad_rep [] (.int (0 : Int32)) 6)
  have f6 : Arv Z h1 o0_ ko0_ .char (6 : Int32) [(.int (102 : Int32)), (.int (97 : Int32)), (.int (105 : Int32)), (.int (108 : Int32)), (.int (101 : Int32)), (.int (100 : Int32))] (.int (0 : Int32)) := P0.ext E1
  have f7 : Exa Z h1 o0_ "[C" := P1.ext E1
  have ne8 : o0_ ≠ b1 := Nat.ne_of_lt (Nat.lt_of_lt_of_le P0.lt (Nat.le_of_eq g1.symm))
  have f9 : Old Z n0 h1 := O0.ext E1
  obtain ⟨_, _, ⟨T5, L5, k5, n5⟩, -, X5, ⟨Lc5, hQ5, l5, y5, z5⟩, st5⟩ := Jvm.LawKit.callS X1 hx (y := (⟨"java/lang/StringUTF16", "compress", "([CI[BII)I"⟩ : MethodName)) hown (mvT hZ (hw _ (List.mem_of_getElem? (i := 24) rfl))) (mvT hZ (hw _ (List.mem_of_getElem? (i := 25) rfl))) (mvT hZ (hw _ (List.mem_of_getElem? (i := 21) rfl))) (mvT hZ (hw _ (List.mem_of_getElem? (i := 26) rfl))) (by decide) (backOf (W := 0) (rmcompress32 l Z a0 hw [] o0_ b1 ko0_ k1 h1 n0 f9 f6 f7 f4 Z1 ge2 ne8) hZ (hw _ (List.mem_of_getElem? (i := 26) rfl)) (hw _ (List.mem_of_getElem? (i := 21) rfl)) (by decide) (by decide)) (g := (mkF m 9 #[.val (.ref o0_), .val (.int (0 : Int32)), .val (.int (6 : Int32)), .val (.ref b1), .unset, .unset] [(.int (6 : Int32)), (.int (0 : Int32)), (.ref b1), (.int (0 : Int32)), (.ref o0_)])) rfl (by rw [hml]; rfl) (argsL := [(.ref o0_), (.int (0 : Int32)), (.ref b1), (.int (0 : Int32)), (.int (6 : Int32))]) (rest := []) (lenOf pd_0 rfl) rfl (by show 2 * 0 + _ ≤ _; exact Nat.le_of_eq rfl) (hb hby d3_9) (fun _ _ => ⟨rfl, e1, (by decide : 1 + 0 ≤ _), (by decide : 6 + 0 ≤ _)⟩)
  dsimp only [Pt.U, Pt.locs, Pt.cells, Pt.slots] at X5 l5 y5 z5 st5 hQ5
  subst l5 y5 z5
  obtain ⟨h5, e5⟩ : ∃ z, T5.heap = z := ⟨_, rfl⟩
  rw [e5] at hQ5
  obtain ⟨rfl, N5q, K5, g5_0, g5_1⟩ := hQ5
  have N10 := Fr.app N0 N5q
  have pre11 : ∀ t, Steps p.tables e below (T5.setTop (mkF m 58 #[.val (.ref o0_), .val (.int (0 : Int32)), .val (.int (6 : Int32)), .val (.ref b1), .val (.int (6 : Int32)), .unset] [(.ref b1)])) t → Steps p.tables e below (s₁.setTop (entryFrame m #[(.ref o0_), (.int (0 : Int32)), (.int (6 : Int32))] 6)) t := by
    intro t kt
    refine pre0 t ?_
    show Steps p.tables e below (s₁.setTop (mkF m 0 #[.val (.ref o0_), .val (.int (0 : Int32)), .val (.int (6 : Int32)), .unset, .unset, .unset] [])) _
    refine XS.iloadN X0.here hx rfl (hb hby d3_0) rfl ?_
    show Steps p.tables e below (s₁.setTop (mkF m 1 #[.val (.ref o0_), .val (.int (0 : Int32)), .val (.int (6 : Int32)), .unset, .unset, .unset] [(.int (6 : Int32))])) _
    refine st1 _ ?_
    show Steps p.tables e below (T1.setTop (mkF m 3 #[.val (.ref o0_), .val (.int (0 : Int32)), .val (.int (6 : Int32)), .unset, .unset, .unset] [(.ref b1)])) _
    refine XS.astoreN X1.here hx rfl (hb hby d3_3) rfl rfl (l' := #[.val (.ref o0_), .val (.int (0 : Int32)), .val (.int (6 : Int32)), .val (.ref b1), .unset, .unset]) rfl ?_
    show Steps p.tables e below (T1.setTop (mkF m 4 #[.val (.ref o0_), .val (.int (0 : Int32)), .val (.int (6 : Int32)), .val (.ref b1), .unset, .unset] [])) _
    refine XS.aloadN X1.here hx rfl (hb hby d3_4) rfl rfl ?_
    show Steps p.tables e below (T1.setTop (mkF m 5 #[.val (.ref o0_), .val (.int (0 : Int32)), .val (.int (6 : Int32)), .val (.ref b1), .unset, .unset] [(.ref o0_)])) _
    refine XS.iloadN X1.here hx rfl (hb hby d3_5) rfl ?_
    show Steps p.tables e below (T1.setTop (mkF m 6 #[.val (.ref o0_), .val (.int (0 : Int32)), .val (.int (6 : Int32)), .val (.ref b1), .unset, .unset] [(.int (0 : Int32)), (.ref o0_)])) _
    refine XS.aloadN X1.here hx rfl (hb hby d3_6) rfl rfl ?_
    show Steps p.tables e below (T1.setTop (mkF m 7 #[.val (.ref o0_), .val (.int (0 : Int32)), .val (.int (6 : Int32)), .val (.ref b1), .unset, .unset] [(.ref b1), (.int (0 : Int32)), (.ref o0_)])) _
    refine XS.iconst X1.here hx rfl (hb hby d3_7) ?_
    show Steps p.tables e below (T1.setTop (mkF m 8 #[.val (.ref o0_), .val (.int (0 : Int32)), .val (.int (6 : Int32)), .val (.ref b1), .unset, .unset] [(.int (0 : Int32)), (.ref b1), (.int (0 : Int32)), (.ref o0_)])) _
    refine XS.iloadN X1.here hx rfl (hb hby d3_8) rfl ?_
    show Steps p.tables e below (T1.setTop (mkF m 9 #[.val (.ref o0_), .val (.int (0 : Int32)), .val (.int (6 : Int32)), .val (.ref b1), .unset, .unset] [(.int (6 : Int32)), (.int (0 : Int32)), (.ref b1), (.int (0 : Int32)), (.ref o0_)])) _
    refine st5 _ ?_
    show Steps p.tables e below (T5.setTop (mkF m 12 #[.val (.ref o0_), .val (.int (0 : Int32)), .val (.int (6 : Int32)), .val (.ref b1), .unset, .unset] [(.int (6 : Int32))])) _
    refine XS.istore X5.here hx rfl (hb hby d3_12) rfl (l' := #[.val (.ref o0_), .val (.int (0 : Int32)), .val (.int (6 : Int32)), .val (.ref b1), .val (.int (6 : Int32)), .unset]) rfl ?_
    show Steps p.tables e below (T5.setTop (mkF m 14 #[.val (.ref o0_), .val (.int (0 : Int32)), .val (.int (6 : Int32)), .val (.ref b1), .val (.int (6 : Int32)), .unset] [])) _
    refine XS.iload X5.here hx rfl (hb hby d3_14) rfl ?_
    show Steps p.tables e below (T5.setTop (mkF m 16 #[.val (.ref o0_), .val (.int (0 : Int32)), .val (.int (6 : Int32)), .val (.ref b1), .val (.int (6 : Int32)), .unset] [(.int (6 : Int32))])) _
    refine XS.iloadN X5.here hx rfl (hb hby d3_16) rfl ?_
    show Steps p.tables e below (T5.setTop (mkF m 17 #[.val (.ref o0_), .val (.int (0 : Int32)), .val (.int (6 : Int32)), .val (.ref b1), .val (.int (6 : Int32)), .unset] [(.int (6 : Int32)), (.int (6 : Int32))])) _
    refine XS.icmpYes X5.here hx rfl (pc0 := 17) (pc' := 57) rfl (hb hby d3_17) rfl (teq (by decide : (6 : Int32) = (6 : Int32))).1 (by decide) (by decide) ?_
    show Steps p.tables e below (T5.setTop (mkF m 57 #[.val (.ref o0_), .val (.int (0 : Int32)), .val (.int (6 : Int32)), .val (.ref b1), .val (.int (6 : Int32)), .unset] [])) _
    refine XS.aloadN X5.here hx rfl (hb hby d3_57) rfl rfl ?_
    exact kt
  have f13 : Keep h0 h1 [] := K0.ext E1
  have f14 : Keep h0 h5 [] := f13.trans K5 (allS (Or.inr sz3) all0)
  obtain ⟨fs, hr, hrun, hended, hW, hsame⟩ := X5.leave (v := some (.ref b1)) (fun h => by rw [Bd.returns] at h; cases h)
  refine ⟨_, _, pre11 _ (retOut X5 hx Bd.returns rfl (Or.inr (Or.inr (Or.inr (Or.inr ⟨rfl, rfl, rfl⟩)))) (hb hby d3_58) hr), hrun, hended, _, _, rfl, ?_, ⟨_, rfl⟩, hW, hsame.mono (by decide) (by decide)⟩
  show Qcompress31 Z o0_ ko0_ h0 n0 _ T5.heap _
  rw [e5]
  exact ⟨k1, b1, rfl, N10, f14, sz3, g5_0, g5_1⟩
theorem efcoderFromArrayLen33 (m : MethodId) (o0_ : Addr) : entryFrame m #[(.ref o0_), (.int (6 : Int32))] 2 = mkF m 0 #[.val (.ref o0_), .val (.int (6 : Int32))] [] := by first | (simp [entryFrame, mkF, argsToLocals, Value.category]; done) | rfl
def QcoderFromArrayLen33 (Z : State) (o0_ : Addr) (ko0_ : ClassId) (h0 : Heap) (n0 : Nat) (v : Option Value) (h : Heap) (L : List Loc) : Prop := v = some (.int (0 : Int32)) ∧ Fr n0 L ∧ h = h0
set_option maxRecDepth 65536 in
set_option maxHeartbeats 40000000 in
theorem rmcoderFromArrayLen33 (l : Launch) (Z : State) (a0 : Array Value) (hw : ∀ d ∈ tables_1, d.before a0 Z = true) (ws : List Jvm.Cond) (o0_ : Addr) (ko0_ : ClassId) (h0 : Heap) (n0 : Nat) (O0 : Old Z n0 h0) (P0 : Arv Z h0 o0_ ko0_ .byte (6 : Int32) [(.int (102 : Int32)), (.int (97 : Int32)), (.int (105 : Int32)), (.int (108 : Int32)), (.int (101 : Int32)), (.int (100 : Int32))] (.int (0 : Int32))) (P1 : Exa Z h0 o0_ "[B") :
    MetFree l (⟨"java/lang/StringUTF16", "coderFromArrayLen", "([BI)B"⟩ : MethodName) (head1 (Jvm.Cond.code (⟨"java/lang/StringUTF16", "coderFromArrayLen", "([BI)B"⟩ : MethodName) jdk_52_method_15_code 2 (some .byte) :: ws) ({ frames := 0, cells := 0, slots := 0, locals := 0 } : Room)) (fun a U => a = #[(.ref o0_), (.int (6 : Int32))] ∧ Z.Warmed39 U.vm ∧ U.heap = h0) (fun _ _ _ _ _ => True) (fun _ U o U' => ∃ v L, o = .returned v ∧ QcoderFromArrayLen33 Z o0_ ko0_ h0 n0 v U'.heap L ∧ FrameEnd U o U' L ({ frames := 0, cells := 0, slots := 0, locals := 0 } : Room).cells ({ frames := 0, cells := 0, slots := 0, locals := 0 } : Room).slots) := by
  refine MetFree.of_bodySF (plainFor_of_name pn_0) hisR ?_
  intro p e s m args below meth c s₁ Bd hml0 hP hK
  obtain ⟨rfl, hZ, hh⟩ := hP
  have hx := Bd.exec
  have hby := Bd.bytes
  have hml : c.maxLocals = 2 := hml0
  have hown : s.vm.findClass "java/lang/StringUTF16" = some m.cls := findClass_of_methodNamed Bd.named
  have hnm := (name_of_methodNamed Bd.named Bd.method).1
  have X0 : Stand p l e ({ frames := 0, cells := 0, slots := 0, locals := 0 } : Room) s m #[(.ref o0_), (.int (6 : Int32))] below meth c s₁ [] 0 0 := Stand.of_body Bd
  have e0 : s₁.heap = h0 := by rw [← hh, Bd.state]; rfl
  have N0 := Fr.nil n0
  have pre0 : ∀ t, Steps p.tables e below (s₁.setTop (mkF m 0 #[.val (.ref o0_), .val (.int (6 : Int32))] [])) t → Steps p.tables e below (s₁.setTop (entryFrame m #[(.ref o0_), (.int (6 : Int32))] 2)) t := fun t k => castTop (efcoderFromArrayLen33 m o0_) k
  have K0 : Keep h0 h0 [] := Keep.refl _ _
  obtain ⟨c1, r1, q1, s1, z1, y1, G1⟩ := id P0
  have pre2 : ∀ t, Steps p.tables e below (s₁.setTop (mkF m 8 #[.val (.ref o0_), .val (.int (6 : Int32))] [(.int (0 : Int32))])) t → Steps p.tables e below (s₁.setTop (entryFrame m #[(.ref o0_), (.int (6 : Int32))] 2)) t := by
    intro t kt
    refine pre0 t ?_
    show Steps p.tables e below (s₁.setTop (mkF m 0 #[.val (.ref o0_), .val (.int (6 : Int32))] [])) _
    refine XS.iloadN X0.here hx rfl (hb hby d5_0) rfl ?_
    show Steps p.tables e below (s₁.setTop (mkF m 1 #[.val (.ref o0_), .val (.int (6 : Int32))] [(.int (6 : Int32))])) _
    refine XS.aloadN X0.here hx rfl (hb hby d5_1) rfl rfl ?_
    show Steps p.tables e below (s₁.setTop (mkF m 2 #[.val (.ref o0_), .val (.int (6 : Int32))] [(.ref o0_), (.int (6 : Int32))])) _
    refine X0.arraylength hx (by rw [e0]; exact r1.1) (State.isArrayOf_alike hZ.alike r1.2.1) (g := (mkF m 2 #[.val (.ref o0_), .val (.int (6 : Int32))] [(.ref o0_), (.int (6 : Int32))])) rfl rfl (hb hby d5_2) _ ?_
    rw [len_of s1 z1]
    show Steps p.tables e below (s₁.setTop (mkF m 3 #[.val (.ref o0_), .val (.int (6 : Int32))] [(.int (6 : Int32)), (.int (6 : Int32))])) _
    refine XS.isub X0.here hx rfl (hb hby d5_3) rfl ?_
    show Steps p.tables e below (s₁.setTop (mkF m 4 #[.val (.ref o0_), .val (.int (6 : Int32))] [(.int (0 : Int32))])) _
    refine XS.bipush X0.here hx rfl (hb hby d5_4) ?_
    show Steps p.tables e below (s₁.setTop (mkF m 6 #[.val (.ref o0_), .val (.int (6 : Int32))] [(.int (31 : Int32)), (.int (0 : Int32))])) _
    refine XS.iushr X0.here hx rfl (hb hby d5_6) rfl ?_
    show Steps p.tables e below (s₁.setTop (mkF m 7 #[.val (.ref o0_), .val (.int (6 : Int32))] [(.int (0 : Int32))])) _
    refine XS.i2b X0.here hx rfl (hb hby d5_7) rfl ?_
    exact kt
  obtain ⟨fs, hr, hrun, hended, hW, hsame⟩ := X0.leave (v := some (.int (0 : Int32))) (fun h => by rw [Bd.returns] at h; cases h)
  refine ⟨_, _, pre2 _ (retN X0 hx (t := .byte) Bd.returns (by simp) (hb hby d5_8) hr), hrun, hended, _, _, rfl, ?_, ⟨_, rfl⟩, hW, hsame.mono (by decide) (by decide)⟩
  show QcoderFromArrayLen33 Z o0_ ko0_ h0 n0 _ s₁.heap _
  rw [e0]
  exact ⟨rfl, N0, rfl⟩
theorem efinit30 (m : MethodId) (o0_ : Addr) (o1_ : Addr) : entryFrame m #[(.ref o0_), (.ref o1_), (.int (0 : Int32)), (.int (6 : Int32)), .null] 6 = mkF m 0 #[.val (.ref o0_), .val (.ref o1_), .val (.int (0 : Int32)), .val (.int (6 : Int32)), .val .null, .unset] [] := by first | (simp [entryFrame, mkF, argsToLocals, Value.category]; done) | rfl
def Qinit30 (Z : State) (o0_ : Addr) (o1_ : Addr) (ko1_ : ClassId) (x0_ : Int32) (h0 : Heap) (n0 : Nat) (v : Option Value) (h : Heap) (L : List Loc) : Prop := ∃ k1_3 : ClassId, ∃ nnb1_3 : Addr, v = none ∧ Fr n0 L ∧ Keep h0 h [o0_] ∧ h0.size ≤ nnb1_3 ∧ Exa Z h o0_ "java/lang/String" ∧ Fld Z h o0_ "java/lang/String" "coder" "B" (.int (0 : Int32)) ∧ Fld Z h o0_ "java/lang/String" "value" "[B" (.ref nnb1_3) ∧ Arv Z h nnb1_3 k1_3 .byte (6 : Int32) [(.int (102 : Int32)), (.int (97 : Int32)), (.int (105 : Int32)), (.int (108 : Int32)), (.int (101 : Int32)), (.int (100 : Int32))] (.int (0 : Int32)) ∧ Exa Z h nnb1_3 "[B"
set_option maxRecDepth 65536 in
set_option maxHeartbeats 40000000 in
theorem rminit30 (l : Launch) (Z : State) (a0 : Array Value) (hw : ∀ d ∈ tables_1, d.before a0 Z = true) (ws : List Jvm.Cond) (o0_ : Addr) (o1_ : Addr) (ko1_ : ClassId) (x0_ : Int32) (h0 : Heap) (n0 : Nat) (O0 : Old Z n0 h0) (P0 : Exa Z h0 o0_ "java/lang/String") (P1 : Fld Z h0 o0_ "java/lang/String" "coder" "B" (.int (0 : Int32))) (P2 : Fld Z h0 o0_ "java/lang/String" "value" "[B" .null) (P3 : Arv Z h0 o1_ ko1_ .char (6 : Int32) [(.int (102 : Int32)), (.int (97 : Int32)), (.int (105 : Int32)), (.int (108 : Int32)), (.int (101 : Int32)), (.int (100 : Int32))] (.int (0 : Int32))) (P4 : Exa Z h0 o1_ "[C") (P5 : ¬ (x0_ = (0 : Int32))) (P6 : Sta Z Z.heap "java/lang/String" "COMPACT_STRINGS" "Z" (.int x0_)) (P7 : n0 ≤ o0_) :
    MetFree l (⟨"java/lang/String", "<init>", "([CIILjava/lang/Void;)V"⟩ : MethodName) (head1 (Jvm.Cond.code (⟨"java/lang/String", "<init>", "([CIILjava/lang/Void;)V"⟩ : MethodName) jdk_42_method_149_code 6 none :: ws) ({ frames := 2, cells := 1, slots := 6, locals := 35 } : Room)) (fun a U => a = #[(.ref o0_), (.ref o1_), (.int (0 : Int32)), (.int (6 : Int32)), .null] ∧ Z.Warmed39 U.vm ∧ U.heap = h0) (fun _ _ _ _ _ => True) (fun _ U o U' => ∃ v L, o = .returned v ∧ Qinit30 Z o0_ o1_ ko1_ x0_ h0 n0 v U'.heap L ∧ FrameEnd U o U' L ({ frames := 2, cells := 1, slots := 6, locals := 35 } : Room).cells ({ frames := 2, cells := 1, slots := 6, locals := 35 } : Room).slots) := by
  refine MetFree.of_bodySF (plainFor_of_name pn_1) hisR ?_
  intro p e s m args below meth c s₁ Bd hml0 hP hK
  obtain ⟨rfl, hZ, hh⟩ := hP
  have hx := Bd.exec
  have hby := Bd.bytes
  have hml : c.maxLocals = 6 := hml0
  have hown : s.vm.findClass "java/lang/String" = some m.cls := findClass_of_methodNamed Bd.named
  have hnm := (name_of_methodNamed Bd.named Bd.method).1
  have X0 : Stand p l e ({ frames := 2, cells := 1, slots := 6, locals := 35 } : Room) s m #[(.ref o0_), (.ref o1_), (.int (0 : Int32)), (.int (6 : Int32)), .null] below meth c s₁ [] 0 0 := Stand.of_body Bd
  have e0 : s₁.heap = h0 := by rw [← hh, Bd.state]; rfl
  have N0 := Fr.nil n0
  have pre0 : ∀ t, Steps p.tables e below (s₁.setTop (mkF m 0 #[.val (.ref o0_), .val (.ref o1_), .val (.int (0 : Int32)), .val (.int (6 : Int32)), .val .null, .unset] [])) t → Steps p.tables e below (s₁.setTop (entryFrame m #[(.ref o0_), (.ref o1_), (.int (0 : Int32)), (.int (6 : Int32)), .null] 6)) t := fun t k => castTop (efinit30 m o0_ o1_) k
  have K0 : Keep h0 h0 [o0_] := Keep.refl _ _
  obtain ⟨T1, X1, e1, st1⟩ := initO X0 hx hZ hown (hw _ (List.mem_of_getElem? (i := 15) rfl)) (hw _ (List.mem_of_getElem? (i := 16) rfl)) (hw _ (List.mem_of_getElem? (i := 17) rfl)) e0 (g := (mkF m 1 #[.val (.ref o0_), .val (.ref o1_), .val (.int (0 : Int32)), .val (.int (6 : Int32)), .val .null, .unset] [(.ref o0_)])) rfl (by rw [hml]; rfl) rfl (hb hby d2_1) (by decide) (W := 0) (by show 2 * 0 + _ ≤ _; exact Nat.le_of_eq rfl) (by decide)
  obtain ⟨T2, X2, e2, st2⟩ := getS2 X1 hx hZ hown (host := "") (Or.inl (hw _ (List.mem_of_getElem? (i := 18) rfl))) Via.refl e1 (P6.ext O0.2) (g := (mkF m 27 #[.val (.ref o0_), .val (.ref o1_), .val (.int (0 : Int32)), .val (.int (6 : Int32)), .val .null, .unset] [])) rfl (hb hby d2_27)
  obtain ⟨_, _, ⟨T3, L3, k3, n3⟩, -, X3, ⟨Lc3, hQ3, l3, y3, z3⟩, st3⟩ := Jvm.LawKit.callS X2 hx (y := (⟨"java/lang/StringUTF16", "compress", "([CII)[B"⟩ : MethodName)) hown (mvT hZ (hw _ (List.mem_of_getElem? (i := 19) rfl))) (mvT hZ (hw _ (List.mem_of_getElem? (i := 20) rfl))) (mvT hZ (hw _ (List.mem_of_getElem? (i := 21) rfl))) (mvT hZ (hw _ (List.mem_of_getElem? (i := 22) rfl))) (by decide) (backOf (W := 0) (rmcompress31 l Z a0 hw [] o1_ ko1_ h0 n0 O0 P3 P4) hZ (hw _ (List.mem_of_getElem? (i := 22) rfl)) (hw _ (List.mem_of_getElem? (i := 21) rfl)) (by decide) (by decide)) (g := (mkF m 36 #[.val (.ref o0_), .val (.ref o1_), .val (.int (0 : Int32)), .val (.int (6 : Int32)), .val .null, .unset] [(.int (6 : Int32)), (.int (0 : Int32)), (.ref o1_)])) rfl (by rw [hml]; rfl) (argsL := [(.ref o1_), (.int (0 : Int32)), (.int (6 : Int32))]) (rest := []) (lenOf pd_1 rfl) rfl (by show 2 * 0 + _ ≤ _; exact Nat.le_of_eq rfl) (hb hby d2_36) (fun _ _ => ⟨rfl, e2, (by decide : 0 + 1 ≤ _), (by decide : 0 + 6 ≤ _)⟩)
  dsimp only [Pt.U, Pt.locs, Pt.cells, Pt.slots] at X3 l3 y3 z3 st3 hQ3
  subst l3 y3 z3
  obtain ⟨h3, e3⟩ : ∃ z, T3.heap = z := ⟨_, rfl⟩
  rw [e3] at hQ3
  obtain ⟨k1_3, nb1_3, rfl, N3q, K3, sznb1_3, g3_0, g3_1⟩ := hQ3
  have N4 := Fr.app N0 N3q
  have ge5 : n0 ≤ nb1_3 := Nat.le_trans (Nat.le_trans (Nat.le_of_eq O0.1.symm) O0.2.1) sznb1_3
  have sz6 : h0.size ≤ nb1_3 := Nat.le_trans K0.1 sznb1_3
  have f8 : Old Z n0 h3 := O0.keep K3 all0
  obtain ⟨_, _, ⟨T7, L7, k7, n7⟩, -, X7, ⟨Lc7, hQ7, l7, y7, z7⟩, st7⟩ := Jvm.LawKit.callS X3 hx (y := (⟨"java/lang/StringUTF16", "coderFromArrayLen", "([BI)B"⟩ : MethodName)) hown (mvT hZ (hw _ (List.mem_of_getElem? (i := 27) rfl))) (mvT hZ (hw _ (List.mem_of_getElem? (i := 28) rfl))) (mvT hZ (hw _ (List.mem_of_getElem? (i := 21) rfl))) (mvT hZ (hw _ (List.mem_of_getElem? (i := 29) rfl))) (by decide) (backOf (W := 1) (rmcoderFromArrayLen33 l Z a0 hw [] nb1_3 k1_3 h3 n0 f8 g3_0 g3_1) hZ (hw _ (List.mem_of_getElem? (i := 29) rfl)) (hw _ (List.mem_of_getElem? (i := 21) rfl)) (by decide) (by decide)) (g := (mkF m 45 #[.val (.ref o0_), .val (.ref o1_), .val (.int (0 : Int32)), .val (.int (6 : Int32)), .val .null, .val (.ref nb1_3)] [(.int (6 : Int32)), (.ref nb1_3), (.ref o0_)])) rfl (by rw [hml]; rfl) (argsL := [(.ref nb1_3), (.int (6 : Int32))]) (rest := [(.ref o0_)]) (lenOf pd_2 rfl) rfl (by show 2 * 0 + _ ≤ _; exact Nat.le_of_eq rfl) (hb hby d2_45) (fun _ _ => ⟨rfl, e3, (by decide : 1 + 0 ≤ _), (by decide : 6 + 0 ≤ _)⟩)
  dsimp only [Pt.U, Pt.locs, Pt.cells, Pt.slots] at X7 l7 y7 z7 st7 hQ7
  subst l7 y7 z7
  obtain ⟨h7, e7⟩ : ∃ z, T7.heap = z := ⟨_, rfl⟩
  rw [e7] at hQ7
  obtain ⟨rfl, N7q, hh7⟩ := hQ7
  have N9 := Fr.app N4 N7q
  have e7' : T7.heap = h3 := e7.trans hh7
  have f10 : Fld Z h3 o0_ "java/lang/String" "coder" "B" (.int (0 : Int32)) := P1.keep K3 nin0
  have f11 : Exa Z h3 o0_ "java/lang/String" := P0.keep K3
  obtain ⟨T12, h12, X12, e12, W12, st12⟩ := putF X7 hx hZ hown (host := "") (Or.inl (hw _ (List.mem_of_getElem? (i := 30) rfl))) Via.refl e7' f10 f11 (Or.inr ⟨(hw _ (List.mem_of_getElem? (i := 31) rfl)), rfl, hnm⟩) (hw _ (List.mem_of_getElem? (i := 6) rfl)) (ty := .byte) (by decide) rfl rfl (g := (mkF m 48 #[.val (.ref o0_), .val (.ref o1_), .val (.int (0 : Int32)), .val (.int (6 : Int32)), .val .null, .val (.ref nb1_3)] [(.int (0 : Int32)), (.ref o0_)])) rfl rfl (hb hby d2_48)
  have N13 := Fr.snoc X12 N9 P7
  have f14 : Fld Z h12 o0_ "java/lang/String" "coder" "B" (.int (0 : Int32)) := f10.same W12
  have f15 : Fld Z h3 o0_ "java/lang/String" "value" "[B" .null := P2.keep K3 nin0
  have f16 : Fld Z h12 o0_ "java/lang/String" "value" "[B" .null := f15.other W12 (Or.inr (slot_ne (Or.inr (hw _ (List.mem_of_getElem? (i := 33) rfl))) (Or.inr (hw _ (List.mem_of_getElem? (i := 31) rfl))) (by decide) (t := (.array .byte)) (t' := .byte) (by decide) (by decide)))
  have f17 : Exa Z h12 o0_ "java/lang/String" := f11.wr W12
  obtain ⟨T18, h18, X18, e18, W18, st18⟩ := putF X12 hx hZ hown (host := "") (Or.inl (hw _ (List.mem_of_getElem? (i := 32) rfl))) Via.refl e12 f16 f17 (Or.inr ⟨(hw _ (List.mem_of_getElem? (i := 33) rfl)), rfl, hnm⟩) (hw _ (List.mem_of_getElem? (i := 6) rfl)) (ty := (.array .byte)) (by decide) rfl rfl (g := (mkF m 54 #[.val (.ref o0_), .val (.ref o1_), .val (.int (0 : Int32)), .val (.int (6 : Int32)), .val .null, .val (.ref nb1_3)] [(.ref nb1_3), (.ref o0_)])) rfl rfl (hb hby d2_54)
  have N19 := Fr.snoc X18 N13 P7
  have f20 : Fld Z h18 o0_ "java/lang/String" "value" "[B" (.ref nb1_3) := f16.same W18
  have pre21 : ∀ t, Steps p.tables e below (T18.setTop (mkF m 57 #[.val (.ref o0_), .val (.ref o1_), .val (.int (0 : Int32)), .val (.int (6 : Int32)), .val .null, .val (.ref nb1_3)] [])) t → Steps p.tables e below (s₁.setTop (entryFrame m #[(.ref o0_), (.ref o1_), (.int (0 : Int32)), (.int (6 : Int32)), .null] 6)) t := by
    intro t kt
    refine pre0 t ?_
    show Steps p.tables e below (s₁.setTop (mkF m 0 #[.val (.ref o0_), .val (.ref o1_), .val (.int (0 : Int32)), .val (.int (6 : Int32)), .val .null, .unset] [])) _
    refine XS.aloadN X0.here hx rfl (hb hby d2_0) rfl rfl ?_
    show Steps p.tables e below (s₁.setTop (mkF m 1 #[.val (.ref o0_), .val (.ref o1_), .val (.int (0 : Int32)), .val (.int (6 : Int32)), .val .null, .unset] [(.ref o0_)])) _
    refine st1 _ ?_
    show Steps p.tables e below (T1.setTop (mkF m 4 #[.val (.ref o0_), .val (.ref o1_), .val (.int (0 : Int32)), .val (.int (6 : Int32)), .val .null, .unset] [])) _
    refine XS.iloadN X1.here hx rfl (hb hby d2_4) rfl ?_
    show Steps p.tables e below (T1.setTop (mkF m 5 #[.val (.ref o0_), .val (.ref o1_), .val (.int (0 : Int32)), .val (.int (6 : Int32)), .val .null, .unset] [(.int (6 : Int32))])) _
    refine XS.ifYes X1.here hx rfl (pc0 := 5) (pc' := 27) rfl (hb hby d2_5) rfl ((if0 _ _).trans (feq (by decide : ¬ ((6 : Int32) = (0 : Int32)))).2) (by decide) (by decide) ?_
    show Steps p.tables e below (T1.setTop (mkF m 27 #[.val (.ref o0_), .val (.ref o1_), .val (.int (0 : Int32)), .val (.int (6 : Int32)), .val .null, .unset] [])) _
    refine st2 _ ?_
    show Steps p.tables e below (T2.setTop (mkF m 30 #[.val (.ref o0_), .val (.ref o1_), .val (.int (0 : Int32)), .val (.int (6 : Int32)), .val .null, .unset] [(.int x0_)])) _
    refine XS.ifNo X2.here hx rfl (hb hby d2_30) rfl ((if0 _ _).trans (feq P5).1) ?_
    show Steps p.tables e below (T2.setTop (mkF m 33 #[.val (.ref o0_), .val (.ref o1_), .val (.int (0 : Int32)), .val (.int (6 : Int32)), .val .null, .unset] [])) _
    refine XS.aloadN X2.here hx rfl (hb hby d2_33) rfl rfl ?_
    show Steps p.tables e below (T2.setTop (mkF m 34 #[.val (.ref o0_), .val (.ref o1_), .val (.int (0 : Int32)), .val (.int (6 : Int32)), .val .null, .unset] [(.ref o1_)])) _
    refine XS.iloadN X2.here hx rfl (hb hby d2_34) rfl ?_
    show Steps p.tables e below (T2.setTop (mkF m 35 #[.val (.ref o0_), .val (.ref o1_), .val (.int (0 : Int32)), .val (.int (6 : Int32)), .val .null, .unset] [(.int (0 : Int32)), (.ref o1_)])) _
    refine XS.iloadN X2.here hx rfl (hb hby d2_35) rfl ?_
    show Steps p.tables e below (T2.setTop (mkF m 36 #[.val (.ref o0_), .val (.ref o1_), .val (.int (0 : Int32)), .val (.int (6 : Int32)), .val .null, .unset] [(.int (6 : Int32)), (.int (0 : Int32)), (.ref o1_)])) _
    refine st3 _ ?_
    show Steps p.tables e below (T3.setTop (mkF m 39 #[.val (.ref o0_), .val (.ref o1_), .val (.int (0 : Int32)), .val (.int (6 : Int32)), .val .null, .unset] [(.ref nb1_3)])) _
    refine XS.astore X3.here hx rfl (hb hby d2_39) rfl rfl (l' := #[.val (.ref o0_), .val (.ref o1_), .val (.int (0 : Int32)), .val (.int (6 : Int32)), .val .null, .val (.ref nb1_3)]) rfl ?_
    show Steps p.tables e below (T3.setTop (mkF m 41 #[.val (.ref o0_), .val (.ref o1_), .val (.int (0 : Int32)), .val (.int (6 : Int32)), .val .null, .val (.ref nb1_3)] [])) _
    refine XS.aloadN X3.here hx rfl (hb hby d2_41) rfl rfl ?_
    show Steps p.tables e below (T3.setTop (mkF m 42 #[.val (.ref o0_), .val (.ref o1_), .val (.int (0 : Int32)), .val (.int (6 : Int32)), .val .null, .val (.ref nb1_3)] [(.ref o0_)])) _
    refine XS.aload X3.here hx rfl (hb hby d2_42) rfl rfl ?_
    show Steps p.tables e below (T3.setTop (mkF m 44 #[.val (.ref o0_), .val (.ref o1_), .val (.int (0 : Int32)), .val (.int (6 : Int32)), .val .null, .val (.ref nb1_3)] [(.ref nb1_3), (.ref o0_)])) _
    refine XS.iloadN X3.here hx rfl (hb hby d2_44) rfl ?_
    show Steps p.tables e below (T3.setTop (mkF m 45 #[.val (.ref o0_), .val (.ref o1_), .val (.int (0 : Int32)), .val (.int (6 : Int32)), .val .null, .val (.ref nb1_3)] [(.int (6 : Int32)), (.ref nb1_3), (.ref o0_)])) _
    refine st7 _ ?_
    show Steps p.tables e below (T7.setTop (mkF m 48 #[.val (.ref o0_), .val (.ref o1_), .val (.int (0 : Int32)), .val (.int (6 : Int32)), .val .null, .val (.ref nb1_3)] [(.int (0 : Int32)), (.ref o0_)])) _
    refine st12 _ ?_
    show Steps p.tables e below (T12.setTop (mkF m 51 #[.val (.ref o0_), .val (.ref o1_), .val (.int (0 : Int32)), .val (.int (6 : Int32)), .val .null, .val (.ref nb1_3)] [])) _
    refine XS.aloadN X12.here hx rfl (hb hby d2_51) rfl rfl ?_
    show Steps p.tables e below (T12.setTop (mkF m 52 #[.val (.ref o0_), .val (.ref o1_), .val (.int (0 : Int32)), .val (.int (6 : Int32)), .val .null, .val (.ref nb1_3)] [(.ref o0_)])) _
    refine XS.aload X12.here hx rfl (hb hby d2_52) rfl rfl ?_
    show Steps p.tables e below (T12.setTop (mkF m 54 #[.val (.ref o0_), .val (.ref o1_), .val (.int (0 : Int32)), .val (.int (6 : Int32)), .val .null, .val (.ref nb1_3)] [(.ref nb1_3), (.ref o0_)])) _
    refine st18 _ ?_
    exact kt
  have f23 : Keep h0 h3 [o0_] := K0.trans K3 all0
  have f24 : Keep h0 h12 [o0_] := f23.wr W12 (Or.inl (List.mem_of_getElem? (i := 0) rfl))
  have f25 : Keep h0 h18 [o0_] := f24.wr W18 (Or.inl (List.mem_of_getElem? (i := 0) rfl))
  have f26 : Exa Z h18 o0_ "java/lang/String" := f17.wr W18
  have f27 : Fld Z h18 o0_ "java/lang/String" "coder" "B" (.int (0 : Int32)) := f14.other W18 (Or.inr (slot_ne (Or.inr (hw _ (List.mem_of_getElem? (i := 31) rfl))) (Or.inr (hw _ (List.mem_of_getElem? (i := 33) rfl))) (by decide) (t := .byte) (t' := (.array .byte)) (by decide) (by decide)))
  have ne29 : o0_ ≠ nb1_3 := Nat.ne_of_lt (Nat.lt_of_lt_of_le P0.lt sznb1_3)
  have f28 : Arv Z h12 nb1_3 k1_3 .byte (6 : Int32) [(.int (102 : Int32)), (.int (97 : Int32)), (.int (105 : Int32)), (.int (108 : Int32)), (.int (101 : Int32)), (.int (100 : Int32))] (.int (0 : Int32)) := g3_0.other W12 (Ne.symm ne29)
  have f30 : Arv Z h18 nb1_3 k1_3 .byte (6 : Int32) [(.int (102 : Int32)), (.int (97 : Int32)), (.int (105 : Int32)), (.int (108 : Int32)), (.int (101 : Int32)), (.int (100 : Int32))] (.int (0 : Int32)) := f28.other W18 (Ne.symm ne29)
  have f31 : Exa Z h12 nb1_3 "[B" := g3_1.wr W12
  have f32 : Exa Z h18 nb1_3 "[B" := f31.wr W18
  obtain ⟨fs, hr, hrun, hended, hW, hsame⟩ := X18.leave (v := none) (fun _ => rfl)
  refine ⟨_, _, pre21 _ (X18.returnOut hx Bd.returns (hb hby d2_57) hr), hrun, hended, _, _, rfl, ?_, ⟨_, rfl⟩, hW, hsame.mono (by decide) (by decide)⟩
  show Qinit30 Z o0_ o1_ ko1_ x0_ h0 n0 _ T18.heap _
  rw [e18]
  exact ⟨k1_3, nb1_3, rfl, N19, f25, sz6, f26, f27, f20, f30, f32⟩
theorem efinit28 (m : MethodId) (o0_ : Addr) (o1_ : Addr) : entryFrame m #[(.ref o0_), (.ref o1_)] 2 = mkF m 0 #[.val (.ref o0_), .val (.ref o1_)] [] := by first | (simp [entryFrame, mkF, argsToLocals, Value.category]; done) | rfl
def Qinit28 (Z : State) (o0_ : Addr) (o1_ : Addr) (ko1_ : ClassId) (x0_ : Int32) (h0 : Heap) (n0 : Nat) (v : Option Value) (h : Heap) (L : List Loc) : Prop := ∃ k1_3_2 : ClassId, ∃ nnnb1_3_2 : Addr, v = none ∧ Fr n0 L ∧ Keep h0 h [o0_] ∧ h0.size ≤ nnnb1_3_2 ∧ Exa Z h o0_ "java/lang/String" ∧ Fld Z h o0_ "java/lang/String" "coder" "B" (.int (0 : Int32)) ∧ Fld Z h o0_ "java/lang/String" "value" "[B" (.ref nnnb1_3_2) ∧ Arv Z h nnnb1_3_2 k1_3_2 .byte (6 : Int32) [(.int (102 : Int32)), (.int (97 : Int32)), (.int (105 : Int32)), (.int (108 : Int32)), (.int (101 : Int32)), (.int (100 : Int32))] (.int (0 : Int32)) ∧ Exa Z h nnnb1_3_2 "[B"
set_option maxRecDepth 65536 in
set_option maxHeartbeats 40000000 in
theorem rminit28 (l : Launch) (Z : State) (a0 : Array Value) (hw : ∀ d ∈ tables_1, d.before a0 Z = true) (ws : List Jvm.Cond) (o0_ : Addr) (o1_ : Addr) (ko1_ : ClassId) (x0_ : Int32) (h0 : Heap) (n0 : Nat) (O0 : Old Z n0 h0) (P0 : Exa Z h0 o0_ "java/lang/String") (P1 : Fld Z h0 o0_ "java/lang/String" "coder" "B" (.int (0 : Int32))) (P2 : Fld Z h0 o0_ "java/lang/String" "value" "[B" .null) (P3 : Arv Z h0 o1_ ko1_ .char (6 : Int32) [(.int (102 : Int32)), (.int (97 : Int32)), (.int (105 : Int32)), (.int (108 : Int32)), (.int (101 : Int32)), (.int (100 : Int32))] (.int (0 : Int32))) (P4 : Exa Z h0 o1_ "[C") (P5 : ¬ (x0_ = (0 : Int32))) (P6 : Sta Z Z.heap "java/lang/String" "COMPACT_STRINGS" "Z" (.int x0_)) (P7 : n0 ≤ o0_) :
    MetFree l (⟨"java/lang/String", "<init>", "([C)V"⟩ : MethodName) (head1 (Jvm.Cond.code (⟨"java/lang/String", "<init>", "([C)V"⟩ : MethodName) jdk_42_method_3_code 2 none :: ws) ({ frames := 3, cells := 1, slots := 6, locals := 52 } : Room)) (fun a U => a = #[(.ref o0_), (.ref o1_)] ∧ Z.Warmed39 U.vm ∧ U.heap = h0) (fun _ _ _ _ _ => True) (fun _ U o U' => ∃ v L, o = .returned v ∧ Qinit28 Z o0_ o1_ ko1_ x0_ h0 n0 v U'.heap L ∧ FrameEnd U o U' L ({ frames := 3, cells := 1, slots := 6, locals := 52 } : Room).cells ({ frames := 3, cells := 1, slots := 6, locals := 52 } : Room).slots) := by
  refine MetFree.of_bodySF (plainFor_of_name pn_1) hisR ?_
  intro p e s m args below meth c s₁ Bd hml0 hP hK
  obtain ⟨rfl, hZ, hh⟩ := hP
  have hx := Bd.exec
  have hby := Bd.bytes
  have hml : c.maxLocals = 2 := hml0
  have hown : s.vm.findClass "java/lang/String" = some m.cls := findClass_of_methodNamed Bd.named
  have hnm := (name_of_methodNamed Bd.named Bd.method).1
  have X0 : Stand p l e ({ frames := 3, cells := 1, slots := 6, locals := 52 } : Room) s m #[(.ref o0_), (.ref o1_)] below meth c s₁ [] 0 0 := Stand.of_body Bd
  have e0 : s₁.heap = h0 := by rw [← hh, Bd.state]; rfl
  have N0 := Fr.nil n0
  have pre0 : ∀ t, Steps p.tables e below (s₁.setTop (mkF m 0 #[.val (.ref o0_), .val (.ref o1_)] [])) t → Steps p.tables e below (s₁.setTop (entryFrame m #[(.ref o0_), (.ref o1_)] 2)) t := fun t k => castTop (efinit28 m o0_ o1_) k
  have K0 : Keep h0 h0 [o0_] := Keep.refl _ _
  obtain ⟨c1, r1, q1, s1, z1, y1, G1⟩ := id P3
  obtain ⟨_, _, ⟨T2, L2, k2, n2⟩, -, X2, ⟨Lc2, hQ2, l2, y2, z2⟩, st2⟩ := X0.specialBack hx (y := (⟨"java/lang/String", "<init>", "([CIILjava/lang/Void;)V"⟩ : MethodName)) rfl hown (mvT hZ (hw _ (List.mem_of_getElem? (i := 11) rfl))) (mvT hZ (hw _ (List.mem_of_getElem? (i := 12) rfl))) (mvT hZ (hw _ (List.mem_of_getElem? (i := 14) rfl))) (by decide) (backOf (W := 0) (rminit30 l Z a0 hw [] o0_ o1_ ko1_ x0_ h0 n0 O0 P0 P1 P2 P3 P4 P5 P6 P7) hZ (hw _ (List.mem_of_getElem? (i := 14) rfl)) (hw _ (List.mem_of_getElem? (i := 7) rfl)) (by decide) (by decide)) (g := (mkF m 6 #[.val (.ref o0_), .val (.ref o1_)] [.null, (.int (6 : Int32)), (.int (0 : Int32)), (.ref o1_), (.ref o0_)])) rfl (by rw [hml]; rfl) (Steps.refl _) (a := o0_) (argsL := [(.ref o1_), (.int (0 : Int32)), (.int (6 : Int32)), .null]) (rest := []) (lenOf pd_3 rfl) rfl (by show 2 * 0 + _ ≤ _; exact Nat.le_of_eq rfl) (hb hby d1_6) (fun _ _ => ⟨rfl, e0, (by decide : 0 + 1 ≤ _), (by decide : 0 + 6 ≤ _)⟩)
  dsimp only [Pt.U, Pt.locs, Pt.cells, Pt.slots] at X2 l2 y2 z2 st2 hQ2
  subst l2 y2 z2
  obtain ⟨h2, e2⟩ : ∃ z, T2.heap = z := ⟨_, rfl⟩
  rw [e2] at hQ2
  obtain ⟨k1_3_2, nnb1_3_2, rfl, N2q, K2, sznnb1_3_2, g2_0, g2_1, g2_2, g2_3, g2_4⟩ := hQ2
  have N3 := Fr.app N0 N2q
  have ge4 : n0 ≤ nnb1_3_2 := Nat.le_trans (Nat.le_trans (Nat.le_of_eq O0.1.symm) O0.2.1) sznnb1_3_2
  have sz5 : h0.size ≤ nnb1_3_2 := Nat.le_trans K0.1 sznnb1_3_2
  have pre6 : ∀ t, Steps p.tables e below (T2.setTop (mkF m 9 #[.val (.ref o0_), .val (.ref o1_)] [])) t → Steps p.tables e below (s₁.setTop (entryFrame m #[(.ref o0_), (.ref o1_)] 2)) t := by
    intro t kt
    refine pre0 t ?_
    show Steps p.tables e below (s₁.setTop (mkF m 0 #[.val (.ref o0_), .val (.ref o1_)] [])) _
    refine XS.aloadN X0.here hx rfl (hb hby d1_0) rfl rfl ?_
    show Steps p.tables e below (s₁.setTop (mkF m 1 #[.val (.ref o0_), .val (.ref o1_)] [(.ref o0_)])) _
    refine XS.aloadN X0.here hx rfl (hb hby d1_1) rfl rfl ?_
    show Steps p.tables e below (s₁.setTop (mkF m 2 #[.val (.ref o0_), .val (.ref o1_)] [(.ref o1_), (.ref o0_)])) _
    refine XS.iconst X0.here hx rfl (hb hby d1_2) ?_
    show Steps p.tables e below (s₁.setTop (mkF m 3 #[.val (.ref o0_), .val (.ref o1_)] [(.int (0 : Int32)), (.ref o1_), (.ref o0_)])) _
    refine XS.aloadN X0.here hx rfl (hb hby d1_3) rfl rfl ?_
    show Steps p.tables e below (s₁.setTop (mkF m 4 #[.val (.ref o0_), .val (.ref o1_)] [(.ref o1_), (.int (0 : Int32)), (.ref o1_), (.ref o0_)])) _
    refine X0.arraylength hx (by rw [e0]; exact r1.1) (State.isArrayOf_alike hZ.alike r1.2.1) (g := (mkF m 4 #[.val (.ref o0_), .val (.ref o1_)] [(.ref o1_), (.int (0 : Int32)), (.ref o1_), (.ref o0_)])) rfl rfl (hb hby d1_4) _ ?_
    rw [len_of s1 z1]
    show Steps p.tables e below (s₁.setTop (mkF m 5 #[.val (.ref o0_), .val (.ref o1_)] [(.int (6 : Int32)), (.int (0 : Int32)), (.ref o1_), (.ref o0_)])) _
    refine XS.aconstNull X0.here hx rfl (hb hby d1_5) ?_
    show Steps p.tables e below (s₁.setTop (mkF m 6 #[.val (.ref o0_), .val (.ref o1_)] [.null, (.int (6 : Int32)), (.int (0 : Int32)), (.ref o1_), (.ref o0_)])) _
    refine st2.trans ?_
    exact kt
  have f8 : Keep h0 h2 [o0_] := K0.trans K2 (allS (Or.inl (List.mem_of_getElem? (i := 0) rfl)) all0)
  obtain ⟨fs, hr, hrun, hended, hW, hsame⟩ := X2.leave (v := none) (fun _ => rfl)
  refine ⟨_, _, pre6 _ (X2.returnOut hx Bd.returns (hb hby d1_9) hr), hrun, hended, _, _, rfl, ?_, ⟨_, rfl⟩, hW, hsame.mono (by decide) (by decide)⟩
  show Qinit28 Z o0_ o1_ ko1_ x0_ h0 n0 _ T2.heap _
  rw [e2]
  exact ⟨k1_3_2, nnb1_3_2, rfl, N3, f8, sz5, g2_0, g2_1, g2_2, g2_3, g2_4⟩
theorem d9_34 : decode jdk_43_method_13_code 34 = .ok (.iconst 0, 1) := by decide +kernel
theorem d9_35 : decode jdk_43_method_13_code 35 = .ok (.ireturn, 1) := by decide +kernel
theorem efequals38 (m : MethodId) (o0_ : Addr) (o1_ : Addr) : entryFrame m #[(.ref o0_), (.ref o1_)] 3 = mkF m 0 #[.val (.ref o0_), .val (.ref o1_), .unset] [] := by first | (simp [entryFrame, mkF, argsToLocals, Value.category]; done) | rfl
def Qequals38 (Z : State) (o0_ : Addr) (o1_ : Addr) (ko0_ : ClassId) (ko1_ : ClassId) (h0 : Heap) (n0 : Nat) (v : Option Value) (h : Heap) (L : List Loc) : Prop := v = some (.int (0 : Int32)) ∧ Fr n0 L ∧ h = h0
set_option maxRecDepth 65536 in
set_option maxHeartbeats 40000000 in
theorem rmequals38 (l : Launch) (Z : State) (a0 : Array Value) (hw : ∀ d ∈ tables_1, d.before a0 Z = true) (ws : List Jvm.Cond) (o0_ : Addr) (o1_ : Addr) (ko0_ : ClassId) (ko1_ : ClassId) (h0 : Heap) (n0 : Nat) (O0 : Old Z n0 h0) (P0 : Arv Z Z.heap o0_ ko0_ .byte (7 : Int32) [(.int (103 : Int32)), (.int (114 : Int32)), (.int (97 : Int32)), (.int (110 : Int32)), (.int (116 : Int32)), (.int (101 : Int32)), (.int (100 : Int32))] (.int (0 : Int32))) (P1 : Arv Z h0 o1_ ko1_ .byte (6 : Int32) [(.int (102 : Int32)), (.int (97 : Int32)), (.int (105 : Int32)), (.int (108 : Int32)), (.int (101 : Int32)), (.int (100 : Int32))] (.int (0 : Int32))) (P2 : Exa Z h0 o1_ "[B") :
    MetFree l (⟨"java/lang/StringLatin1", "equals", "([B[B)Z"⟩ : MethodName) (head1 (Jvm.Cond.code (⟨"java/lang/StringLatin1", "equals", "([B[B)Z"⟩ : MethodName) jdk_43_method_13_code 3 (some .boolean) :: ws) ({ frames := 0, cells := 0, slots := 0, locals := 0 } : Room)) (fun a U => a = #[(.ref o0_), (.ref o1_)] ∧ Z.Warmed39 U.vm ∧ U.heap = h0) (fun _ _ _ _ _ => True) (fun _ U o U' => ∃ v L, o = .returned v ∧ Qequals38 Z o0_ o1_ ko0_ ko1_ h0 n0 v U'.heap L ∧ FrameEnd U o U' L ({ frames := 0, cells := 0, slots := 0, locals := 0 } : Room).cells ({ frames := 0, cells := 0, slots := 0, locals := 0 } : Room).slots) := by
  refine MetFree.of_bodySF (plainFor_of_name pn_3) hisR ?_
  intro p e s m args below meth c s₁ Bd hml0 hP hK
  obtain ⟨rfl, hZ, hh⟩ := hP
  have hx := Bd.exec
  have hby := Bd.bytes
  have hml : c.maxLocals = 3 := hml0
  have hown : s.vm.findClass "java/lang/StringLatin1" = some m.cls := findClass_of_methodNamed Bd.named
  have hnm := (name_of_methodNamed Bd.named Bd.method).1
  have X0 : Stand p l e ({ frames := 0, cells := 0, slots := 0, locals := 0 } : Room) s m #[(.ref o0_), (.ref o1_)] below meth c s₁ [] 0 0 := Stand.of_body Bd
  have e0 : s₁.heap = h0 := by rw [← hh, Bd.state]; rfl
  have N0 := Fr.nil n0
  have pre0 : ∀ t, Steps p.tables e below (s₁.setTop (mkF m 0 #[.val (.ref o0_), .val (.ref o1_), .unset] [])) t → Steps p.tables e below (s₁.setTop (entryFrame m #[(.ref o0_), (.ref o1_)] 3)) t := fun t k => castTop (efequals38 m o0_ o1_) k
  have K0 : Keep h0 h0 [] := Keep.refl _ _
  have f2 : Arv Z h0 o0_ ko0_ .byte (7 : Int32) [(.int (103 : Int32)), (.int (114 : Int32)), (.int (97 : Int32)), (.int (110 : Int32)), (.int (116 : Int32)), (.int (101 : Int32)), (.int (100 : Int32))] (.int (0 : Int32)) := P0.ext O0.2
  obtain ⟨c1, r1, q1, s1, z1, y1, G1⟩ := id f2
  obtain ⟨c3, r3, q3, s3, z3, y3, G3⟩ := id P1
  have pre4 : ∀ t, Steps p.tables e below (s₁.setTop (mkF m 35 #[.val (.ref o0_), .val (.ref o1_), .unset] [(.int (0 : Int32))])) t → Steps p.tables e below (s₁.setTop (entryFrame m #[(.ref o0_), (.ref o1_)] 3)) t := by
    intro t kt
    refine pre0 t ?_
    show Steps p.tables e below (s₁.setTop (mkF m 0 #[.val (.ref o0_), .val (.ref o1_), .unset] [])) _
    refine XS.aloadN X0.here hx rfl (hb hby d9_0) rfl rfl ?_
    show Steps p.tables e below (s₁.setTop (mkF m 1 #[.val (.ref o0_), .val (.ref o1_), .unset] [(.ref o0_)])) _
    refine X0.arraylength hx (by rw [e0]; exact r1.1) (State.isArrayOf_alike hZ.alike r1.2.1) (g := (mkF m 1 #[.val (.ref o0_), .val (.ref o1_), .unset] [(.ref o0_)])) rfl rfl (hb hby d9_1) _ ?_
    rw [len_of s1 z1]
    show Steps p.tables e below (s₁.setTop (mkF m 2 #[.val (.ref o0_), .val (.ref o1_), .unset] [(.int (7 : Int32))])) _
    refine XS.aloadN X0.here hx rfl (hb hby d9_2) rfl rfl ?_
    show Steps p.tables e below (s₁.setTop (mkF m 3 #[.val (.ref o0_), .val (.ref o1_), .unset] [(.ref o1_), (.int (7 : Int32))])) _
    refine X0.arraylength hx (by rw [e0]; exact r3.1) (State.isArrayOf_alike hZ.alike r3.2.1) (g := (mkF m 3 #[.val (.ref o0_), .val (.ref o1_), .unset] [(.ref o1_), (.int (7 : Int32))])) rfl rfl (hb hby d9_3) _ ?_
    rw [len_of s3 z3]
    show Steps p.tables e below (s₁.setTop (mkF m 4 #[.val (.ref o0_), .val (.ref o1_), .unset] [(.int (6 : Int32)), (.int (7 : Int32))])) _
    refine XS.icmpYes X0.here hx rfl (pc0 := 4) (pc' := 34) rfl (hb hby d9_4) rfl (feq (by decide : ¬ ((7 : Int32) = (6 : Int32)))).2 (by decide) (by decide) ?_
    show Steps p.tables e below (s₁.setTop (mkF m 34 #[.val (.ref o0_), .val (.ref o1_), .unset] [])) _
    refine XS.iconst X0.here hx rfl (hb hby d9_34) ?_
    exact kt
  obtain ⟨fs, hr, hrun, hended, hW, hsame⟩ := X0.leave (v := some (.int (0 : Int32))) (fun h => by rw [Bd.returns] at h; cases h)
  refine ⟨_, _, pre4 _ (retN X0 hx (t := .boolean) Bd.returns (by simp) (hb hby d9_35) hr), hrun, hended, _, _, rfl, ?_, ⟨_, rfl⟩, hW, hsame.mono (by decide) (by decide)⟩
  show Qequals38 Z o0_ o1_ ko0_ ko1_ h0 n0 _ s₁.heap _
  rw [e0]
  exact ⟨rfl, N0, rfl⟩
theorem efequals37 (m : MethodId) (o0_ : Addr) (o1_ : Addr) : entryFrame m #[(.ref o0_), (.ref o1_)] 3 = mkF m 0 #[.val (.ref o0_), .val (.ref o1_), .unset] [] := by first | (simp [entryFrame, mkF, argsToLocals, Value.category]; done) | rfl
def Qequals37 (Z : State) (o0_ : Addr) (o1_ : Addr) (o2_ : Addr) (o3_ : Addr) (ko2_ : ClassId) (ko3_ : ClassId) (x0_ : Int32) (h0 : Heap) (n0 : Nat) (v : Option Value) (h : Heap) (L : List Loc) : Prop := v = some (.int (0 : Int32)) ∧ Fr n0 L ∧ h = h0
set_option maxRecDepth 65536 in
set_option maxHeartbeats 40000000 in
theorem rmequals37 (l : Launch) (Z : State) (a0 : Array Value) (hw : ∀ d ∈ tables_1, d.before a0 Z = true) (ws : List Jvm.Cond) (o0_ : Addr) (o1_ : Addr) (o2_ : Addr) (o3_ : Addr) (ko2_ : ClassId) (ko3_ : ClassId) (x0_ : Int32) (h0 : Heap) (n0 : Nat) (O0 : Old Z n0 h0) (P0 : Exa Z Z.heap o0_ "java/lang/String") (P1 : Fld Z Z.heap o0_ "java/lang/String" "value" "[B" (.ref o2_)) (P2 : Fld Z Z.heap o0_ "java/lang/String" "coder" "B" (.int (0 : Int32))) (P3 : Exa Z h0 o1_ "java/lang/String") (P4 : Fld Z h0 o1_ "java/lang/String" "coder" "B" (.int (0 : Int32))) (P5 : Fld Z h0 o1_ "java/lang/String" "value" "[B" (.ref o3_)) (P6 : Arv Z Z.heap o2_ ko2_ .byte (7 : Int32) [(.int (103 : Int32)), (.int (114 : Int32)), (.int (97 : Int32)), (.int (110 : Int32)), (.int (116 : Int32)), (.int (101 : Int32)), (.int (100 : Int32))] (.int (0 : Int32))) (P7 : Arv Z h0 o3_ ko3_ .byte (6 : Int32) [(.int (102 : Int32)), (.int (97 : Int32)), (.int (105 : Int32)), (.int (108 : Int32)), (.int (101 : Int32)), (.int (100 : Int32))] (.int (0 : Int32))) (P8 : Exa Z h0 o3_ "[B") (P9 : n0 ≤ o1_) (P10 : ¬ (x0_ = (0 : Int32))) (P11 : Sta Z Z.heap "java/lang/String" "COMPACT_STRINGS" "Z" (.int x0_)) :
    MetFree l (⟨"java/lang/String", "equals", "(Ljava/lang/Object;)Z"⟩ : MethodName) (head1 (Jvm.Cond.code (⟨"java/lang/String", "equals", "(Ljava/lang/Object;)Z"⟩ : MethodName) jdk_42_method_66_code 3 (some .boolean) :: ws) ({ frames := 1, cells := 0, slots := 0, locals := 14 } : Room)) (fun a U => a = #[(.ref o0_), (.ref o1_)] ∧ Z.Warmed39 U.vm ∧ U.heap = h0) (fun _ _ _ _ _ => True) (fun _ U o U' => ∃ v L, o = .returned v ∧ Qequals37 Z o0_ o1_ o2_ o3_ ko2_ ko3_ x0_ h0 n0 v U'.heap L ∧ FrameEnd U o U' L ({ frames := 1, cells := 0, slots := 0, locals := 14 } : Room).cells ({ frames := 1, cells := 0, slots := 0, locals := 14 } : Room).slots) := by
  refine MetFree.of_bodySF (plainFor_of_name pn_1) hisR ?_
  intro p e s m args below meth c s₁ Bd hml0 hP hK
  obtain ⟨rfl, hZ, hh⟩ := hP
  have hx := Bd.exec
  have hby := Bd.bytes
  have hml : c.maxLocals = 3 := hml0
  have hown : s.vm.findClass "java/lang/String" = some m.cls := findClass_of_methodNamed Bd.named
  have hnm := (name_of_methodNamed Bd.named Bd.method).1
  have X0 : Stand p l e ({ frames := 1, cells := 0, slots := 0, locals := 14 } : Room) s m #[(.ref o0_), (.ref o1_)] below meth c s₁ [] 0 0 := Stand.of_body Bd
  have e0 : s₁.heap = h0 := by rw [← hh, Bd.state]; rfl
  have N0 := Fr.nil n0
  have pre0 : ∀ t, Steps p.tables e below (s₁.setTop (mkF m 0 #[.val (.ref o0_), .val (.ref o1_), .unset] [])) t → Steps p.tables e below (s₁.setTop (entryFrame m #[(.ref o0_), (.ref o1_)] 3)) t := fun t k => castTop (efequals37 m o0_ o1_) k
  have K0 : Keep h0 h0 [] := Keep.refl _ _
  have ne1 : o0_ ≠ o1_ := O0.ne P0.lt P9
  obtain ⟨T2, X2, e2, st2⟩ := instY X0 hx hZ hown (hw _ (List.mem_of_getElem? (i := 61) rfl)) e0 (Ins.self P3) (g := (mkF m 8 #[.val (.ref o0_), .val (.ref o1_), .unset] [(.ref o1_)])) rfl rfl (hb hby d8_8)
  obtain ⟨T3, X3, e3, st3⟩ := castY X2 hx hZ hown (hw _ (List.mem_of_getElem? (i := 61) rfl)) e2 (Ins.self P3) (g := (mkF m 15 #[.val (.ref o0_), .val (.ref o1_), .unset] [(.ref o1_)])) rfl rfl (hb hby d8_15)
  obtain ⟨T4, X4, e4, st4⟩ := getS2 X3 hx hZ hown (host := "") (Or.inl (hw _ (List.mem_of_getElem? (i := 18) rfl))) Via.refl e3 (P11.ext O0.2) (g := (mkF m 19 #[.val (.ref o0_), .val (.ref o1_), .val (.ref o1_)] [])) rfl (hb hby d8_19)
  have f5 : Fld Z h0 o0_ "java/lang/String" "coder" "B" (.int (0 : Int32)) := P2.ext O0.2
  obtain ⟨T6, X6, e6, st6⟩ := getF X4 hx hZ hown (host := "") (Or.inl (hw _ (List.mem_of_getElem? (i := 30) rfl))) Via.refl e4 f5 (g := (mkF m 26 #[.val (.ref o0_), .val (.ref o1_), .val (.ref o1_)] [(.ref o0_)])) rfl rfl (hb hby d8_26)
  obtain ⟨T7, X7, e7, st7⟩ := getF X6 hx hZ hown (host := "") (Or.inl (hw _ (List.mem_of_getElem? (i := 30) rfl))) Via.refl e6 P4 (g := (mkF m 30 #[.val (.ref o0_), .val (.ref o1_), .val (.ref o1_)] [(.ref o1_), (.int (0 : Int32))])) rfl rfl (hb hby d8_30)
  have f8 : Fld Z h0 o0_ "java/lang/String" "value" "[B" (.ref o2_) := P1.ext O0.2
  obtain ⟨T9, X9, e9, st9⟩ := getF X7 hx hZ hown (host := "") (Or.inl (hw _ (List.mem_of_getElem? (i := 32) rfl))) Via.refl e7 f8 (g := (mkF m 37 #[.val (.ref o0_), .val (.ref o1_), .val (.ref o1_)] [(.ref o0_)])) rfl rfl (hb hby d8_37)
  obtain ⟨T10, X10, e10, st10⟩ := getF X9 hx hZ hown (host := "") (Or.inl (hw _ (List.mem_of_getElem? (i := 32) rfl))) Via.refl e9 P5 (g := (mkF m 41 #[.val (.ref o0_), .val (.ref o1_), .val (.ref o1_)] [(.ref o1_), (.ref o2_)])) rfl rfl (hb hby d8_41)
  obtain ⟨_, _, ⟨T11, L11, k11, n11⟩, -, X11, ⟨Lc11, hQ11, l11, y11, z11⟩, st11⟩ := Jvm.LawKit.callS X10 hx (y := (⟨"java/lang/StringLatin1", "equals", "([B[B)Z"⟩ : MethodName)) hown (mvT hZ (hw _ (List.mem_of_getElem? (i := 62) rfl))) (mvT hZ (hw _ (List.mem_of_getElem? (i := 63) rfl))) (mvT hZ (hw _ (List.mem_of_getElem? (i := 64) rfl))) (mvT hZ (hw _ (List.mem_of_getElem? (i := 65) rfl))) (by decide) (backOf (W := 0) (rmequals38 l Z a0 hw [] o2_ o3_ ko2_ ko3_ h0 n0 O0 P6 P7 P8) hZ (hw _ (List.mem_of_getElem? (i := 65) rfl)) (hw _ (List.mem_of_getElem? (i := 64) rfl)) (by decide) (by decide)) (g := (mkF m 44 #[.val (.ref o0_), .val (.ref o1_), .val (.ref o1_)] [(.ref o3_), (.ref o2_)])) rfl (by rw [hml]; rfl) (argsL := [(.ref o2_), (.ref o3_)]) (rest := []) (lenOf pd_6 rfl) rfl (by show 2 * 0 + _ ≤ _; exact Nat.le_of_eq rfl) (hb hby d8_44) (fun _ _ => ⟨rfl, e10, (by decide : 0 + 0 ≤ _), (by decide : 0 + 0 ≤ _)⟩)
  dsimp only [Pt.U, Pt.locs, Pt.cells, Pt.slots] at X11 l11 y11 z11 st11 hQ11
  subst l11 y11 z11
  obtain ⟨h11, e11⟩ : ∃ z, T11.heap = z := ⟨_, rfl⟩
  rw [e11] at hQ11
  obtain ⟨rfl, N11q, hh11⟩ := hQ11
  have N12 := Fr.app N0 N11q
  have e11' : T11.heap = h0 := e11.trans hh11
  have pre13 : ∀ t, Steps p.tables e below (T11.setTop (mkF m 55 #[.val (.ref o0_), .val (.ref o1_), .val (.ref o1_)] [(.int (0 : Int32))])) t → Steps p.tables e below (s₁.setTop (entryFrame m #[(.ref o0_), (.ref o1_)] 3)) t := by
    intro t kt
    refine pre0 t ?_
    show Steps p.tables e below (s₁.setTop (mkF m 0 #[.val (.ref o0_), .val (.ref o1_), .unset] [])) _
    refine XS.aloadN X0.here hx rfl (hb hby d8_0) rfl rfl ?_
    show Steps p.tables e below (s₁.setTop (mkF m 1 #[.val (.ref o0_), .val (.ref o1_), .unset] [(.ref o0_)])) _
    refine XS.aloadN X0.here hx rfl (hb hby d8_1) rfl rfl ?_
    show Steps p.tables e below (s₁.setTop (mkF m 2 #[.val (.ref o0_), .val (.ref o1_), .unset] [(.ref o1_), (.ref o0_)])) _
    refine Jvm.RoadKit.acmp (g := (mkF m 2 #[.val (.ref o0_), .val (.ref o1_), .unset] [(.ref o1_), (.ref o0_)])) X0 hx rfl rfl rfl (pc0 := 2) (pc' := 7) (same := false) rfl (hb hby d8_2) rfl (decide_eq_false fun q => ne1 (Value.ref.inj q)) (by decide) (by decide) ?_
    show Steps p.tables e below (s₁.setTop (mkF m 7 #[.val (.ref o0_), .val (.ref o1_), .unset] [])) _
    refine XS.aloadN X0.here hx rfl (hb hby d8_7) rfl rfl ?_
    show Steps p.tables e below (s₁.setTop (mkF m 8 #[.val (.ref o0_), .val (.ref o1_), .unset] [(.ref o1_)])) _
    refine st2 _ ?_
    show Steps p.tables e below (T2.setTop (mkF m 11 #[.val (.ref o0_), .val (.ref o1_), .unset] [(.int (1 : Int32))])) _
    refine XS.ifNo X2.here hx rfl (hb hby d8_11) rfl ((if0 _ _).trans (feq (by decide : ¬ ((1 : Int32) = (0 : Int32)))).1) ?_
    show Steps p.tables e below (T2.setTop (mkF m 14 #[.val (.ref o0_), .val (.ref o1_), .unset] [])) _
    refine XS.aloadN X2.here hx rfl (hb hby d8_14) rfl rfl ?_
    show Steps p.tables e below (T2.setTop (mkF m 15 #[.val (.ref o0_), .val (.ref o1_), .unset] [(.ref o1_)])) _
    refine st3 _ ?_
    show Steps p.tables e below (T3.setTop (mkF m 18 #[.val (.ref o0_), .val (.ref o1_), .unset] [(.ref o1_)])) _
    refine XS.astoreN X3.here hx rfl (hb hby d8_18) rfl rfl (l' := #[.val (.ref o0_), .val (.ref o1_), .val (.ref o1_)]) rfl ?_
    show Steps p.tables e below (T3.setTop (mkF m 19 #[.val (.ref o0_), .val (.ref o1_), .val (.ref o1_)] [])) _
    refine st4 _ ?_
    show Steps p.tables e below (T4.setTop (mkF m 22 #[.val (.ref o0_), .val (.ref o1_), .val (.ref o1_)] [(.int x0_)])) _
    refine XS.ifNo X4.here hx rfl (hb hby d8_22) rfl ((if0 _ _).trans (feq P10).1) ?_
    show Steps p.tables e below (T4.setTop (mkF m 25 #[.val (.ref o0_), .val (.ref o1_), .val (.ref o1_)] [])) _
    refine XS.aloadN X4.here hx rfl (hb hby d8_25) rfl rfl ?_
    show Steps p.tables e below (T4.setTop (mkF m 26 #[.val (.ref o0_), .val (.ref o1_), .val (.ref o1_)] [(.ref o0_)])) _
    refine st6 _ ?_
    show Steps p.tables e below (T6.setTop (mkF m 29 #[.val (.ref o0_), .val (.ref o1_), .val (.ref o1_)] [(.int (0 : Int32))])) _
    refine XS.aloadN X6.here hx rfl (hb hby d8_29) rfl rfl ?_
    show Steps p.tables e below (T6.setTop (mkF m 30 #[.val (.ref o0_), .val (.ref o1_), .val (.ref o1_)] [(.ref o1_), (.int (0 : Int32))])) _
    refine st7 _ ?_
    show Steps p.tables e below (T7.setTop (mkF m 33 #[.val (.ref o0_), .val (.ref o1_), .val (.ref o1_)] [(.int (0 : Int32)), (.int (0 : Int32))])) _
    refine XS.icmpNo X7.here hx rfl (hb hby d8_33) rfl (teq (by decide : (0 : Int32) = (0 : Int32))).2 ?_
    show Steps p.tables e below (T7.setTop (mkF m 36 #[.val (.ref o0_), .val (.ref o1_), .val (.ref o1_)] [])) _
    refine XS.aloadN X7.here hx rfl (hb hby d8_36) rfl rfl ?_
    show Steps p.tables e below (T7.setTop (mkF m 37 #[.val (.ref o0_), .val (.ref o1_), .val (.ref o1_)] [(.ref o0_)])) _
    refine st9 _ ?_
    show Steps p.tables e below (T9.setTop (mkF m 40 #[.val (.ref o0_), .val (.ref o1_), .val (.ref o1_)] [(.ref o2_)])) _
    refine XS.aloadN X9.here hx rfl (hb hby d8_40) rfl rfl ?_
    show Steps p.tables e below (T9.setTop (mkF m 41 #[.val (.ref o0_), .val (.ref o1_), .val (.ref o1_)] [(.ref o1_), (.ref o2_)])) _
    refine st10 _ ?_
    show Steps p.tables e below (T10.setTop (mkF m 44 #[.val (.ref o0_), .val (.ref o1_), .val (.ref o1_)] [(.ref o3_), (.ref o2_)])) _
    refine st11 _ ?_
    show Steps p.tables e below (T11.setTop (mkF m 47 #[.val (.ref o0_), .val (.ref o1_), .val (.ref o1_)] [(.int (0 : Int32))])) _
    refine XS.ifYes X11.here hx rfl (pc0 := 47) (pc' := 54) rfl (hb hby d8_47) rfl ((if0 _ _).trans (teq (by decide : (0 : Int32) = (0 : Int32))).1) (by decide) (by decide) ?_
    show Steps p.tables e below (T11.setTop (mkF m 54 #[.val (.ref o0_), .val (.ref o1_), .val (.ref o1_)] [])) _
    refine XS.iconst X11.here hx rfl (hb hby d8_54) ?_
    exact kt
  obtain ⟨fs, hr, hrun, hended, hW, hsame⟩ := X11.leave (v := some (.int (0 : Int32))) (fun h => by rw [Bd.returns] at h; cases h)
  refine ⟨_, _, pre13 _ (retN X11 hx (t := .boolean) Bd.returns (by simp) (hb hby d8_55) hr), hrun, hended, _, _, rfl, ?_, ⟨_, rfl⟩, hW, hsame.mono (by decide) (by decide)⟩
  show Qequals37 Z o0_ o1_ o2_ o3_ ko2_ ko3_ x0_ h0 n0 _ T11.heap _
  rw [e11']
  exact ⟨rfl, N12, rfl⟩
theorem efequals40 (m : MethodId) (o0_ : Addr) (o1_ : Addr) : entryFrame m #[(.ref o0_), (.ref o1_)] 3 = mkF m 0 #[.val (.ref o0_), .val (.ref o1_), .unset] [] := by first | (simp [entryFrame, mkF, argsToLocals, Value.category]; done) | rfl
def Qequals40 (Z : State) (o0_ : Addr) (o1_ : Addr) (ko0_ : ClassId) (ko1_ : ClassId) (h0 : Heap) (n0 : Nat) (v : Option Value) (h : Heap) (L : List Loc) : Prop := v = some (.int (0 : Int32)) ∧ Fr n0 L ∧ h = h0
set_option maxRecDepth 65536 in
set_option maxHeartbeats 40000000 in
theorem rmequals40 (l : Launch) (Z : State) (a0 : Array Value) (hw : ∀ d ∈ tables_1, d.before a0 Z = true) (ws : List Jvm.Cond) (o0_ : Addr) (o1_ : Addr) (ko0_ : ClassId) (ko1_ : ClassId) (h0 : Heap) (n0 : Nat) (O0 : Old Z n0 h0) (P0 : Arv Z Z.heap o0_ ko0_ .byte (7 : Int32) [(.int (114 : Int32)), (.int (101 : Int32)), (.int (102 : Int32)), (.int (117 : Int32)), (.int (115 : Int32)), (.int (101 : Int32)), (.int (100 : Int32))] (.int (0 : Int32))) (P1 : Arv Z h0 o1_ ko1_ .byte (6 : Int32) [(.int (102 : Int32)), (.int (97 : Int32)), (.int (105 : Int32)), (.int (108 : Int32)), (.int (101 : Int32)), (.int (100 : Int32))] (.int (0 : Int32))) (P2 : Exa Z h0 o1_ "[B") :
    MetFree l (⟨"java/lang/StringLatin1", "equals", "([B[B)Z"⟩ : MethodName) (head1 (Jvm.Cond.code (⟨"java/lang/StringLatin1", "equals", "([B[B)Z"⟩ : MethodName) jdk_43_method_13_code 3 (some .boolean) :: ws) ({ frames := 0, cells := 0, slots := 0, locals := 0 } : Room)) (fun a U => a = #[(.ref o0_), (.ref o1_)] ∧ Z.Warmed39 U.vm ∧ U.heap = h0) (fun _ _ _ _ _ => True) (fun _ U o U' => ∃ v L, o = .returned v ∧ Qequals40 Z o0_ o1_ ko0_ ko1_ h0 n0 v U'.heap L ∧ FrameEnd U o U' L ({ frames := 0, cells := 0, slots := 0, locals := 0 } : Room).cells ({ frames := 0, cells := 0, slots := 0, locals := 0 } : Room).slots) := by
  refine MetFree.of_bodySF (plainFor_of_name pn_3) hisR ?_
  intro p e s m args below meth c s₁ Bd hml0 hP hK
  obtain ⟨rfl, hZ, hh⟩ := hP
  have hx := Bd.exec
  have hby := Bd.bytes
  have hml : c.maxLocals = 3 := hml0
  have hown : s.vm.findClass "java/lang/StringLatin1" = some m.cls := findClass_of_methodNamed Bd.named
  have hnm := (name_of_methodNamed Bd.named Bd.method).1
  have X0 : Stand p l e ({ frames := 0, cells := 0, slots := 0, locals := 0 } : Room) s m #[(.ref o0_), (.ref o1_)] below meth c s₁ [] 0 0 := Stand.of_body Bd
  have e0 : s₁.heap = h0 := by rw [← hh, Bd.state]; rfl
  have N0 := Fr.nil n0
  have pre0 : ∀ t, Steps p.tables e below (s₁.setTop (mkF m 0 #[.val (.ref o0_), .val (.ref o1_), .unset] [])) t → Steps p.tables e below (s₁.setTop (entryFrame m #[(.ref o0_), (.ref o1_)] 3)) t := fun t k => castTop (efequals40 m o0_ o1_) k
  have K0 : Keep h0 h0 [] := Keep.refl _ _
  have f2 : Arv Z h0 o0_ ko0_ .byte (7 : Int32) [(.int (114 : Int32)), (.int (101 : Int32)), (.int (102 : Int32)), (.int (117 : Int32)), (.int (115 : Int32)), (.int (101 : Int32)), (.int (100 : Int32))] (.int (0 : Int32)) := P0.ext O0.2
  obtain ⟨c1, r1, q1, s1, z1, y1, G1⟩ := id f2
  obtain ⟨c3, r3, q3, s3, z3, y3, G3⟩ := id P1
  have pre4 : ∀ t, Steps p.tables e below (s₁.setTop (mkF m 35 #[.val (.ref o0_), .val (.ref o1_), .unset] [(.int (0 : Int32))])) t → Steps p.tables e below (s₁.setTop (entryFrame m #[(.ref o0_), (.ref o1_)] 3)) t := by
    intro t kt
    refine pre0 t ?_
    show Steps p.tables e below (s₁.setTop (mkF m 0 #[.val (.ref o0_), .val (.ref o1_), .unset] [])) _
    refine XS.aloadN X0.here hx rfl (hb hby d9_0) rfl rfl ?_
    show Steps p.tables e below (s₁.setTop (mkF m 1 #[.val (.ref o0_), .val (.ref o1_), .unset] [(.ref o0_)])) _
    refine X0.arraylength hx (by rw [e0]; exact r1.1) (State.isArrayOf_alike hZ.alike r1.2.1) (g := (mkF m 1 #[.val (.ref o0_), .val (.ref o1_), .unset] [(.ref o0_)])) rfl rfl (hb hby d9_1) _ ?_
    rw [len_of s1 z1]
    show Steps p.tables e below (s₁.setTop (mkF m 2 #[.val (.ref o0_), .val (.ref o1_), .unset] [(.int (7 : Int32))])) _
    refine XS.aloadN X0.here hx rfl (hb hby d9_2) rfl rfl ?_
    show Steps p.tables e below (s₁.setTop (mkF m 3 #[.val (.ref o0_), .val (.ref o1_), .unset] [(.ref o1_), (.int (7 : Int32))])) _
    refine X0.arraylength hx (by rw [e0]; exact r3.1) (State.isArrayOf_alike hZ.alike r3.2.1) (g := (mkF m 3 #[.val (.ref o0_), .val (.ref o1_), .unset] [(.ref o1_), (.int (7 : Int32))])) rfl rfl (hb hby d9_3) _ ?_
    rw [len_of s3 z3]
    show Steps p.tables e below (s₁.setTop (mkF m 4 #[.val (.ref o0_), .val (.ref o1_), .unset] [(.int (6 : Int32)), (.int (7 : Int32))])) _
    refine XS.icmpYes X0.here hx rfl (pc0 := 4) (pc' := 34) rfl (hb hby d9_4) rfl (feq (by decide : ¬ ((7 : Int32) = (6 : Int32)))).2 (by decide) (by decide) ?_
    show Steps p.tables e below (s₁.setTop (mkF m 34 #[.val (.ref o0_), .val (.ref o1_), .unset] [])) _
    refine XS.iconst X0.here hx rfl (hb hby d9_34) ?_
    exact kt
  obtain ⟨fs, hr, hrun, hended, hW, hsame⟩ := X0.leave (v := some (.int (0 : Int32))) (fun h => by rw [Bd.returns] at h; cases h)
  refine ⟨_, _, pre4 _ (retN X0 hx (t := .boolean) Bd.returns (by simp) (hb hby d9_35) hr), hrun, hended, _, _, rfl, ?_, ⟨_, rfl⟩, hW, hsame.mono (by decide) (by decide)⟩
  show Qequals40 Z o0_ o1_ ko0_ ko1_ h0 n0 _ s₁.heap _
  rw [e0]
  exact ⟨rfl, N0, rfl⟩
theorem efequals39 (m : MethodId) (o0_ : Addr) (o1_ : Addr) : entryFrame m #[(.ref o0_), (.ref o1_)] 3 = mkF m 0 #[.val (.ref o0_), .val (.ref o1_), .unset] [] := by first | (simp [entryFrame, mkF, argsToLocals, Value.category]; done) | rfl
def Qequals39 (Z : State) (o0_ : Addr) (o1_ : Addr) (o2_ : Addr) (o3_ : Addr) (ko2_ : ClassId) (ko3_ : ClassId) (x0_ : Int32) (h0 : Heap) (n0 : Nat) (v : Option Value) (h : Heap) (L : List Loc) : Prop := v = some (.int (0 : Int32)) ∧ Fr n0 L ∧ h = h0
set_option maxRecDepth 65536 in
set_option maxHeartbeats 40000000 in
theorem rmequals39 (l : Launch) (Z : State) (a0 : Array Value) (hw : ∀ d ∈ tables_1, d.before a0 Z = true) (ws : List Jvm.Cond) (o0_ : Addr) (o1_ : Addr) (o2_ : Addr) (o3_ : Addr) (ko2_ : ClassId) (ko3_ : ClassId) (x0_ : Int32) (h0 : Heap) (n0 : Nat) (O0 : Old Z n0 h0) (P0 : Exa Z Z.heap o0_ "java/lang/String") (P1 : Fld Z Z.heap o0_ "java/lang/String" "value" "[B" (.ref o2_)) (P2 : Fld Z Z.heap o0_ "java/lang/String" "coder" "B" (.int (0 : Int32))) (P3 : Exa Z h0 o1_ "java/lang/String") (P4 : Fld Z h0 o1_ "java/lang/String" "coder" "B" (.int (0 : Int32))) (P5 : Fld Z h0 o1_ "java/lang/String" "value" "[B" (.ref o3_)) (P6 : Arv Z Z.heap o2_ ko2_ .byte (7 : Int32) [(.int (114 : Int32)), (.int (101 : Int32)), (.int (102 : Int32)), (.int (117 : Int32)), (.int (115 : Int32)), (.int (101 : Int32)), (.int (100 : Int32))] (.int (0 : Int32))) (P7 : Arv Z h0 o3_ ko3_ .byte (6 : Int32) [(.int (102 : Int32)), (.int (97 : Int32)), (.int (105 : Int32)), (.int (108 : Int32)), (.int (101 : Int32)), (.int (100 : Int32))] (.int (0 : Int32))) (P8 : Exa Z h0 o3_ "[B") (P9 : n0 ≤ o1_) (P10 : ¬ (x0_ = (0 : Int32))) (P11 : Sta Z Z.heap "java/lang/String" "COMPACT_STRINGS" "Z" (.int x0_)) :
    MetFree l (⟨"java/lang/String", "equals", "(Ljava/lang/Object;)Z"⟩ : MethodName) (head1 (Jvm.Cond.code (⟨"java/lang/String", "equals", "(Ljava/lang/Object;)Z"⟩ : MethodName) jdk_42_method_66_code 3 (some .boolean) :: ws) ({ frames := 1, cells := 0, slots := 0, locals := 14 } : Room)) (fun a U => a = #[(.ref o0_), (.ref o1_)] ∧ Z.Warmed39 U.vm ∧ U.heap = h0) (fun _ _ _ _ _ => True) (fun _ U o U' => ∃ v L, o = .returned v ∧ Qequals39 Z o0_ o1_ o2_ o3_ ko2_ ko3_ x0_ h0 n0 v U'.heap L ∧ FrameEnd U o U' L ({ frames := 1, cells := 0, slots := 0, locals := 14 } : Room).cells ({ frames := 1, cells := 0, slots := 0, locals := 14 } : Room).slots) := by
  refine MetFree.of_bodySF (plainFor_of_name pn_1) hisR ?_
  intro p e s m args below meth c s₁ Bd hml0 hP hK
  obtain ⟨rfl, hZ, hh⟩ := hP
  have hx := Bd.exec
  have hby := Bd.bytes
  have hml : c.maxLocals = 3 := hml0
  have hown : s.vm.findClass "java/lang/String" = some m.cls := findClass_of_methodNamed Bd.named
  have hnm := (name_of_methodNamed Bd.named Bd.method).1
  have X0 : Stand p l e ({ frames := 1, cells := 0, slots := 0, locals := 14 } : Room) s m #[(.ref o0_), (.ref o1_)] below meth c s₁ [] 0 0 := Stand.of_body Bd
  have e0 : s₁.heap = h0 := by rw [← hh, Bd.state]; rfl
  have N0 := Fr.nil n0
  have pre0 : ∀ t, Steps p.tables e below (s₁.setTop (mkF m 0 #[.val (.ref o0_), .val (.ref o1_), .unset] [])) t → Steps p.tables e below (s₁.setTop (entryFrame m #[(.ref o0_), (.ref o1_)] 3)) t := fun t k => castTop (efequals39 m o0_ o1_) k
  have K0 : Keep h0 h0 [] := Keep.refl _ _
  have ne1 : o0_ ≠ o1_ := O0.ne P0.lt P9
  obtain ⟨T2, X2, e2, st2⟩ := instY X0 hx hZ hown (hw _ (List.mem_of_getElem? (i := 61) rfl)) e0 (Ins.self P3) (g := (mkF m 8 #[.val (.ref o0_), .val (.ref o1_), .unset] [(.ref o1_)])) rfl rfl (hb hby d8_8)
  obtain ⟨T3, X3, e3, st3⟩ := castY X2 hx hZ hown (hw _ (List.mem_of_getElem? (i := 61) rfl)) e2 (Ins.self P3) (g := (mkF m 15 #[.val (.ref o0_), .val (.ref o1_), .unset] [(.ref o1_)])) rfl rfl (hb hby d8_15)
  obtain ⟨T4, X4, e4, st4⟩ := getS2 X3 hx hZ hown (host := "") (Or.inl (hw _ (List.mem_of_getElem? (i := 18) rfl))) Via.refl e3 (P11.ext O0.2) (g := (mkF m 19 #[.val (.ref o0_), .val (.ref o1_), .val (.ref o1_)] [])) rfl (hb hby d8_19)
  have f5 : Fld Z h0 o0_ "java/lang/String" "coder" "B" (.int (0 : Int32)) := P2.ext O0.2
  obtain ⟨T6, X6, e6, st6⟩ := getF X4 hx hZ hown (host := "") (Or.inl (hw _ (List.mem_of_getElem? (i := 30) rfl))) Via.refl e4 f5 (g := (mkF m 26 #[.val (.ref o0_), .val (.ref o1_), .val (.ref o1_)] [(.ref o0_)])) rfl rfl (hb hby d8_26)
  obtain ⟨T7, X7, e7, st7⟩ := getF X6 hx hZ hown (host := "") (Or.inl (hw _ (List.mem_of_getElem? (i := 30) rfl))) Via.refl e6 P4 (g := (mkF m 30 #[.val (.ref o0_), .val (.ref o1_), .val (.ref o1_)] [(.ref o1_), (.int (0 : Int32))])) rfl rfl (hb hby d8_30)
  have f8 : Fld Z h0 o0_ "java/lang/String" "value" "[B" (.ref o2_) := P1.ext O0.2
  obtain ⟨T9, X9, e9, st9⟩ := getF X7 hx hZ hown (host := "") (Or.inl (hw _ (List.mem_of_getElem? (i := 32) rfl))) Via.refl e7 f8 (g := (mkF m 37 #[.val (.ref o0_), .val (.ref o1_), .val (.ref o1_)] [(.ref o0_)])) rfl rfl (hb hby d8_37)
  obtain ⟨T10, X10, e10, st10⟩ := getF X9 hx hZ hown (host := "") (Or.inl (hw _ (List.mem_of_getElem? (i := 32) rfl))) Via.refl e9 P5 (g := (mkF m 41 #[.val (.ref o0_), .val (.ref o1_), .val (.ref o1_)] [(.ref o1_), (.ref o2_)])) rfl rfl (hb hby d8_41)
  obtain ⟨_, _, ⟨T11, L11, k11, n11⟩, -, X11, ⟨Lc11, hQ11, l11, y11, z11⟩, st11⟩ := Jvm.LawKit.callS X10 hx (y := (⟨"java/lang/StringLatin1", "equals", "([B[B)Z"⟩ : MethodName)) hown (mvT hZ (hw _ (List.mem_of_getElem? (i := 62) rfl))) (mvT hZ (hw _ (List.mem_of_getElem? (i := 63) rfl))) (mvT hZ (hw _ (List.mem_of_getElem? (i := 64) rfl))) (mvT hZ (hw _ (List.mem_of_getElem? (i := 65) rfl))) (by decide) (backOf (W := 0) (rmequals40 l Z a0 hw [] o2_ o3_ ko2_ ko3_ h0 n0 O0 P6 P7 P8) hZ (hw _ (List.mem_of_getElem? (i := 65) rfl)) (hw _ (List.mem_of_getElem? (i := 64) rfl)) (by decide) (by decide)) (g := (mkF m 44 #[.val (.ref o0_), .val (.ref o1_), .val (.ref o1_)] [(.ref o3_), (.ref o2_)])) rfl (by rw [hml]; rfl) (argsL := [(.ref o2_), (.ref o3_)]) (rest := []) (lenOf pd_6 rfl) rfl (by show 2 * 0 + _ ≤ _; exact Nat.le_of_eq rfl) (hb hby d8_44) (fun _ _ => ⟨rfl, e10, (by decide : 0 + 0 ≤ _), (by decide : 0 + 0 ≤ _)⟩)
  dsimp only [Pt.U, Pt.locs, Pt.cells, Pt.slots] at X11 l11 y11 z11 st11 hQ11
  subst l11 y11 z11
  obtain ⟨h11, e11⟩ : ∃ z, T11.heap = z := ⟨_, rfl⟩
  rw [e11] at hQ11
  obtain ⟨rfl, N11q, hh11⟩ := hQ11
  have N12 := Fr.app N0 N11q
  have e11' : T11.heap = h0 := e11.trans hh11
  have pre13 : ∀ t, Steps p.tables e below (T11.setTop (mkF m 55 #[.val (.ref o0_), .val (.ref o1_), .val (.ref o1_)] [(.int (0 : Int32))])) t → Steps p.tables e below (s₁.setTop (entryFrame m #[(.ref o0_), (.ref o1_)] 3)) t := by
    intro t kt
    refine pre0 t ?_
    show Steps p.tables e below (s₁.setTop (mkF m 0 #[.val (.ref o0_), .val (.ref o1_), .unset] [])) _
    refine XS.aloadN X0.here hx rfl (hb hby d8_0) rfl rfl ?_
    show Steps p.tables e below (s₁.setTop (mkF m 1 #[.val (.ref o0_), .val (.ref o1_), .unset] [(.ref o0_)])) _
    refine XS.aloadN X0.here hx rfl (hb hby d8_1) rfl rfl ?_
    show Steps p.tables e below (s₁.setTop (mkF m 2 #[.val (.ref o0_), .val (.ref o1_), .unset] [(.ref o1_), (.ref o0_)])) _
    refine Jvm.RoadKit.acmp (g := (mkF m 2 #[.val (.ref o0_), .val (.ref o1_), .unset] [(.ref o1_), (.ref o0_)])) X0 hx rfl rfl rfl (pc0 := 2) (pc' := 7) (same := false) rfl (hb hby d8_2) rfl (decide_eq_false fun q => ne1 (Value.ref.inj q)) (by decide) (by decide) ?_
    show Steps p.tables e below (s₁.setTop (mkF m 7 #[.val (.ref o0_), .val (.ref o1_), .unset] [])) _
    refine XS.aloadN X0.here hx rfl (hb hby d8_7) rfl rfl ?_
    show Steps p.tables e below (s₁.setTop (mkF m 8 #[.val (.ref o0_), .val (.ref o1_), .unset] [(.ref o1_)])) _
    refine st2 _ ?_
    show Steps p.tables e below (T2.setTop (mkF m 11 #[.val (.ref o0_), .val (.ref o1_), .unset] [(.int (1 : Int32))])) _
    refine XS.ifNo X2.here hx rfl (hb hby d8_11) rfl ((if0 _ _).trans (feq (by decide : ¬ ((1 : Int32) = (0 : Int32)))).1) ?_
    show Steps p.tables e below (T2.setTop (mkF m 14 #[.val (.ref o0_), .val (.ref o1_), .unset] [])) _
    refine XS.aloadN X2.here hx rfl (hb hby d8_14) rfl rfl ?_
    show Steps p.tables e below (T2.setTop (mkF m 15 #[.val (.ref o0_), .val (.ref o1_), .unset] [(.ref o1_)])) _
    refine st3 _ ?_
    show Steps p.tables e below (T3.setTop (mkF m 18 #[.val (.ref o0_), .val (.ref o1_), .unset] [(.ref o1_)])) _
    refine XS.astoreN X3.here hx rfl (hb hby d8_18) rfl rfl (l' := #[.val (.ref o0_), .val (.ref o1_), .val (.ref o1_)]) rfl ?_
    show Steps p.tables e below (T3.setTop (mkF m 19 #[.val (.ref o0_), .val (.ref o1_), .val (.ref o1_)] [])) _
    refine st4 _ ?_
    show Steps p.tables e below (T4.setTop (mkF m 22 #[.val (.ref o0_), .val (.ref o1_), .val (.ref o1_)] [(.int x0_)])) _
    refine XS.ifNo X4.here hx rfl (hb hby d8_22) rfl ((if0 _ _).trans (feq P10).1) ?_
    show Steps p.tables e below (T4.setTop (mkF m 25 #[.val (.ref o0_), .val (.ref o1_), .val (.ref o1_)] [])) _
    refine XS.aloadN X4.here hx rfl (hb hby d8_25) rfl rfl ?_
    show Steps p.tables e below (T4.setTop (mkF m 26 #[.val (.ref o0_), .val (.ref o1_), .val (.ref o1_)] [(.ref o0_)])) _
    refine st6 _ ?_
    show Steps p.tables e below (T6.setTop (mkF m 29 #[.val (.ref o0_), .val (.ref o1_), .val (.ref o1_)] [(.int (0 : Int32))])) _
    refine XS.aloadN X6.here hx rfl (hb hby d8_29) rfl rfl ?_
    show Steps p.tables e below (T6.setTop (mkF m 30 #[.val (.ref o0_), .val (.ref o1_), .val (.ref o1_)] [(.ref o1_), (.int (0 : Int32))])) _
    refine st7 _ ?_
    show Steps p.tables e below (T7.setTop (mkF m 33 #[.val (.ref o0_), .val (.ref o1_), .val (.ref o1_)] [(.int (0 : Int32)), (.int (0 : Int32))])) _
    refine XS.icmpNo X7.here hx rfl (hb hby d8_33) rfl (teq (by decide : (0 : Int32) = (0 : Int32))).2 ?_
    show Steps p.tables e below (T7.setTop (mkF m 36 #[.val (.ref o0_), .val (.ref o1_), .val (.ref o1_)] [])) _
    refine XS.aloadN X7.here hx rfl (hb hby d8_36) rfl rfl ?_
    show Steps p.tables e below (T7.setTop (mkF m 37 #[.val (.ref o0_), .val (.ref o1_), .val (.ref o1_)] [(.ref o0_)])) _
    refine st9 _ ?_
    show Steps p.tables e below (T9.setTop (mkF m 40 #[.val (.ref o0_), .val (.ref o1_), .val (.ref o1_)] [(.ref o2_)])) _
    refine XS.aloadN X9.here hx rfl (hb hby d8_40) rfl rfl ?_
    show Steps p.tables e below (T9.setTop (mkF m 41 #[.val (.ref o0_), .val (.ref o1_), .val (.ref o1_)] [(.ref o1_), (.ref o2_)])) _
    refine st10 _ ?_
    show Steps p.tables e below (T10.setTop (mkF m 44 #[.val (.ref o0_), .val (.ref o1_), .val (.ref o1_)] [(.ref o3_), (.ref o2_)])) _
    refine st11 _ ?_
    show Steps p.tables e below (T11.setTop (mkF m 47 #[.val (.ref o0_), .val (.ref o1_), .val (.ref o1_)] [(.int (0 : Int32))])) _
    refine XS.ifYes X11.here hx rfl (pc0 := 47) (pc' := 54) rfl (hb hby d8_47) rfl ((if0 _ _).trans (teq (by decide : (0 : Int32) = (0 : Int32))).1) (by decide) (by decide) ?_
    show Steps p.tables e below (T11.setTop (mkF m 54 #[.val (.ref o0_), .val (.ref o1_), .val (.ref o1_)] [])) _
    refine XS.iconst X11.here hx rfl (hb hby d8_54) ?_
    exact kt
  obtain ⟨fs, hr, hrun, hended, hW, hsame⟩ := X11.leave (v := some (.int (0 : Int32))) (fun h => by rw [Bd.returns] at h; cases h)
  refine ⟨_, _, pre13 _ (retN X11 hx (t := .boolean) Bd.returns (by simp) (hb hby d8_55) hr), hrun, hended, _, _, rfl, ?_, ⟨_, rfl⟩, hW, hsame.mono (by decide) (by decide)⟩
  show Qequals39 Z o0_ o1_ o2_ o3_ ko2_ ko3_ x0_ h0 n0 _ T11.heap _
  rw [e11']
  exact ⟨rfl, N12, rfl⟩
theorem efequals42 (m : MethodId) (o0_ : Addr) (o1_ : Addr) : entryFrame m #[(.ref o0_), (.ref o1_)] 3 = mkF m 0 #[.val (.ref o0_), .val (.ref o1_), .unset] [] := by first | (simp [entryFrame, mkF, argsToLocals, Value.category]; done) | rfl
def Qequals42 (Z : State) (o0_ : Addr) (o1_ : Addr) (ko0_ : ClassId) (ko1_ : ClassId) (h0 : Heap) (n0 : Nat) (v : Option Value) (h : Heap) (L : List Loc) : Prop := v = some (.int (1 : Int32)) ∧ Fr n0 L ∧ h = h0
set_option maxRecDepth 65536 in
set_option maxHeartbeats 40000000 in
theorem rmequals42 (l : Launch) (Z : State) (a0 : Array Value) (hw : ∀ d ∈ tables_1, d.before a0 Z = true) (ws : List Jvm.Cond) (o0_ : Addr) (o1_ : Addr) (ko0_ : ClassId) (ko1_ : ClassId) (h0 : Heap) (n0 : Nat) (O0 : Old Z n0 h0) (P0 : Arv Z Z.heap o0_ ko0_ .byte (6 : Int32) [(.int (102 : Int32)), (.int (97 : Int32)), (.int (105 : Int32)), (.int (108 : Int32)), (.int (101 : Int32)), (.int (100 : Int32))] (.int (0 : Int32))) (P1 : Arv Z h0 o1_ ko1_ .byte (6 : Int32) [(.int (102 : Int32)), (.int (97 : Int32)), (.int (105 : Int32)), (.int (108 : Int32)), (.int (101 : Int32)), (.int (100 : Int32))] (.int (0 : Int32))) (P2 : Exa Z h0 o1_ "[B") :
    MetFree l (⟨"java/lang/StringLatin1", "equals", "([B[B)Z"⟩ : MethodName) (head1 (Jvm.Cond.code (⟨"java/lang/StringLatin1", "equals", "([B[B)Z"⟩ : MethodName) jdk_43_method_13_code 3 (some .boolean) :: ws) ({ frames := 0, cells := 0, slots := 0, locals := 0 } : Room)) (fun a U => a = #[(.ref o0_), (.ref o1_)] ∧ Z.Warmed39 U.vm ∧ U.heap = h0) (fun _ _ _ _ _ => True) (fun _ U o U' => ∃ v L, o = .returned v ∧ Qequals42 Z o0_ o1_ ko0_ ko1_ h0 n0 v U'.heap L ∧ FrameEnd U o U' L ({ frames := 0, cells := 0, slots := 0, locals := 0 } : Room).cells ({ frames := 0, cells := 0, slots := 0, locals := 0 } : Room).slots) := by
  refine MetFree.of_bodySF (plainFor_of_name pn_3) hisR ?_
  intro p e s m args below meth c s₁ Bd hml0 hP hK
  obtain ⟨rfl, hZ, hh⟩ := hP
  have hx := Bd.exec
  have hby := Bd.bytes
  have hml : c.maxLocals = 3 := hml0
  have hown : s.vm.findClass "java/lang/StringLatin1" = some m.cls := findClass_of_methodNamed Bd.named
  have hnm := (name_of_methodNamed Bd.named Bd.method).1
  have X0 : Stand p l e ({ frames := 0, cells := 0, slots := 0, locals := 0 } : Room) s m #[(.ref o0_), (.ref o1_)] below meth c s₁ [] 0 0 := Stand.of_body Bd
  have e0 : s₁.heap = h0 := by rw [← hh, Bd.state]; rfl
  have N0 := Fr.nil n0
  have pre0 : ∀ t, Steps p.tables e below (s₁.setTop (mkF m 0 #[.val (.ref o0_), .val (.ref o1_), .unset] [])) t → Steps p.tables e below (s₁.setTop (entryFrame m #[(.ref o0_), (.ref o1_)] 3)) t := fun t k => castTop (efequals42 m o0_ o1_) k
  have K0 : Keep h0 h0 [] := Keep.refl _ _
  have f2 : Arv Z h0 o0_ ko0_ .byte (6 : Int32) [(.int (102 : Int32)), (.int (97 : Int32)), (.int (105 : Int32)), (.int (108 : Int32)), (.int (101 : Int32)), (.int (100 : Int32))] (.int (0 : Int32)) := P0.ext O0.2
  obtain ⟨c1, r1, q1, s1, z1, y1, G1⟩ := id f2
  obtain ⟨c3, r3, q3, s3, z3, y3, G3⟩ := id P1
  have f5 : Arv Z h0 o0_ ko0_ .byte (6 : Int32) [(.int (102 : Int32)), (.int (97 : Int32)), (.int (105 : Int32)), (.int (108 : Int32)), (.int (101 : Int32)), (.int (100 : Int32))] (.int (0 : Int32)) := P0.ext O0.2
  obtain ⟨c4, r4, q4, s4, z4, y4, G4⟩ := id f5
  have f6 : Arv Z h0 o0_ ko0_ .byte (6 : Int32) [(.int (102 : Int32)), (.int (97 : Int32)), (.int (105 : Int32)), (.int (108 : Int32)), (.int (101 : Int32)), (.int (100 : Int32))] (.int (0 : Int32)) := P0.ext O0.2
  obtain ⟨c7, r7, q7, s7, z7, y7, G7⟩ := id f6
  have hin7 : ¬ ((0 : Int32) < 0 ∨ c7.slots.size ≤ ((0 : Int32)).toNatClampNeg) := inb_of s7 ⟨by decide, by decide⟩
  have hat7 : c7.slots[((0 : Int32)).toNatClampNeg]? = some (.int (102 : Int32)) := Has.at y7 hin7 rfl
  obtain ⟨c8, r8, q8, s8, z8, y8, G8⟩ := id P1
  have hin8 : ¬ ((0 : Int32) < 0 ∨ c8.slots.size ≤ ((0 : Int32)).toNatClampNeg) := inb_of s8 ⟨by decide, by decide⟩
  have hat8 : c8.slots[((0 : Int32)).toNatClampNeg]? = some (.int (102 : Int32)) := Has.at y8 hin8 rfl
  have f10 : Arv Z h0 o0_ ko0_ .byte (6 : Int32) [(.int (102 : Int32)), (.int (97 : Int32)), (.int (105 : Int32)), (.int (108 : Int32)), (.int (101 : Int32)), (.int (100 : Int32))] (.int (0 : Int32)) := P0.ext O0.2
  obtain ⟨c9, r9, q9, s9, z9, y9, G9⟩ := id f10
  have f11 : Arv Z h0 o0_ ko0_ .byte (6 : Int32) [(.int (102 : Int32)), (.int (97 : Int32)), (.int (105 : Int32)), (.int (108 : Int32)), (.int (101 : Int32)), (.int (100 : Int32))] (.int (0 : Int32)) := P0.ext O0.2
  obtain ⟨c12, r12, q12, s12, z12, y12, G12⟩ := id f11
  have hin12 : ¬ ((1 : Int32) < 0 ∨ c12.slots.size ≤ ((1 : Int32)).toNatClampNeg) := inb_of s12 ⟨by decide, by decide⟩
  have hat12 : c12.slots[((1 : Int32)).toNatClampNeg]? = some (.int (97 : Int32)) := Has.at y12 hin12 rfl
  obtain ⟨c13, r13, q13, s13, z13, y13, G13⟩ := id P1
  have hin13 : ¬ ((1 : Int32) < 0 ∨ c13.slots.size ≤ ((1 : Int32)).toNatClampNeg) := inb_of s13 ⟨by decide, by decide⟩
  have hat13 : c13.slots[((1 : Int32)).toNatClampNeg]? = some (.int (97 : Int32)) := Has.at y13 hin13 rfl
  have f15 : Arv Z h0 o0_ ko0_ .byte (6 : Int32) [(.int (102 : Int32)), (.int (97 : Int32)), (.int (105 : Int32)), (.int (108 : Int32)), (.int (101 : Int32)), (.int (100 : Int32))] (.int (0 : Int32)) := P0.ext O0.2
  obtain ⟨c14, r14, q14, s14, z14, y14, G14⟩ := id f15
  have f16 : Arv Z h0 o0_ ko0_ .byte (6 : Int32) [(.int (102 : Int32)), (.int (97 : Int32)), (.int (105 : Int32)), (.int (108 : Int32)), (.int (101 : Int32)), (.int (100 : Int32))] (.int (0 : Int32)) := P0.ext O0.2
  obtain ⟨c17, r17, q17, s17, z17, y17, G17⟩ := id f16
  have hin17 : ¬ ((2 : Int32) < 0 ∨ c17.slots.size ≤ ((2 : Int32)).toNatClampNeg) := inb_of s17 ⟨by decide, by decide⟩
  have hat17 : c17.slots[((2 : Int32)).toNatClampNeg]? = some (.int (105 : Int32)) := Has.at y17 hin17 rfl
  obtain ⟨c18, r18, q18, s18, z18, y18, G18⟩ := id P1
  have hin18 : ¬ ((2 : Int32) < 0 ∨ c18.slots.size ≤ ((2 : Int32)).toNatClampNeg) := inb_of s18 ⟨by decide, by decide⟩
  have hat18 : c18.slots[((2 : Int32)).toNatClampNeg]? = some (.int (105 : Int32)) := Has.at y18 hin18 rfl
  have f20 : Arv Z h0 o0_ ko0_ .byte (6 : Int32) [(.int (102 : Int32)), (.int (97 : Int32)), (.int (105 : Int32)), (.int (108 : Int32)), (.int (101 : Int32)), (.int (100 : Int32))] (.int (0 : Int32)) := P0.ext O0.2
  obtain ⟨c19, r19, q19, s19, z19, y19, G19⟩ := id f20
  have f21 : Arv Z h0 o0_ ko0_ .byte (6 : Int32) [(.int (102 : Int32)), (.int (97 : Int32)), (.int (105 : Int32)), (.int (108 : Int32)), (.int (101 : Int32)), (.int (100 : Int32))] (.int (0 : Int32)) := P0.ext O0.2
  obtain ⟨c22, r22, q22, s22, z22, y22, G22⟩ := id f21
  have hin22 : ¬ ((3 : Int32) < 0 ∨ c22.slots.size ≤ ((3 : Int32)).toNatClampNeg) := inb_of s22 ⟨by decide, by decide⟩
  have hat22 : c22.slots[((3 : Int32)).toNatClampNeg]? = some (.int (108 : Int32)) := Has.at y22 hin22 rfl
  obtain ⟨c23, r23, q23, s23, z23, y23, G23⟩ := id P1
  have hin23 : ¬ ((3 : Int32) < 0 ∨ c23.slots.size ≤ ((3 : Int32)).toNatClampNeg) := inb_of s23 ⟨by decide, by decide⟩
  have hat23 : c23.slots[((3 : Int32)).toNatClampNeg]? = some (.int (108 : Int32)) := Has.at y23 hin23 rfl
  have f25 : Arv Z h0 o0_ ko0_ .byte (6 : Int32) [(.int (102 : Int32)), (.int (97 : Int32)), (.int (105 : Int32)), (.int (108 : Int32)), (.int (101 : Int32)), (.int (100 : Int32))] (.int (0 : Int32)) := P0.ext O0.2
  obtain ⟨c24, r24, q24, s24, z24, y24, G24⟩ := id f25
  have f26 : Arv Z h0 o0_ ko0_ .byte (6 : Int32) [(.int (102 : Int32)), (.int (97 : Int32)), (.int (105 : Int32)), (.int (108 : Int32)), (.int (101 : Int32)), (.int (100 : Int32))] (.int (0 : Int32)) := P0.ext O0.2
  obtain ⟨c27, r27, q27, s27, z27, y27, G27⟩ := id f26
  have hin27 : ¬ ((4 : Int32) < 0 ∨ c27.slots.size ≤ ((4 : Int32)).toNatClampNeg) := inb_of s27 ⟨by decide, by decide⟩
  have hat27 : c27.slots[((4 : Int32)).toNatClampNeg]? = some (.int (101 : Int32)) := Has.at y27 hin27 rfl
  obtain ⟨c28, r28, q28, s28, z28, y28, G28⟩ := id P1
  have hin28 : ¬ ((4 : Int32) < 0 ∨ c28.slots.size ≤ ((4 : Int32)).toNatClampNeg) := inb_of s28 ⟨by decide, by decide⟩
  have hat28 : c28.slots[((4 : Int32)).toNatClampNeg]? = some (.int (101 : Int32)) := Has.at y28 hin28 rfl
  have f30 : Arv Z h0 o0_ ko0_ .byte (6 : Int32) [(.int (102 : Int32)), (.int (97 : Int32)), (.int (105 : Int32)), (.int (108 : Int32)), (.int (101 : Int32)), (.int (100 : Int32))] (.int (0 : Int32)) := P0.ext O0.2
  obtain ⟨c29, r29, q29, s29, z29, y29, G29⟩ := id f30
  have f31 : Arv Z h0 o0_ ko0_ .byte (6 : Int32) [(.int (102 : Int32)), (.int (97 : Int32)), (.int (105 : Int32)), (.int (108 : Int32)), (.int (101 : Int32)), (.int (100 : Int32))] (.int (0 : Int32)) := P0.ext O0.2
  obtain ⟨c32, r32, q32, s32, z32, y32, G32⟩ := id f31
  have hin32 : ¬ ((5 : Int32) < 0 ∨ c32.slots.size ≤ ((5 : Int32)).toNatClampNeg) := inb_of s32 ⟨by decide, by decide⟩
  have hat32 : c32.slots[((5 : Int32)).toNatClampNeg]? = some (.int (100 : Int32)) := Has.at y32 hin32 rfl
  obtain ⟨c33, r33, q33, s33, z33, y33, G33⟩ := id P1
  have hin33 : ¬ ((5 : Int32) < 0 ∨ c33.slots.size ≤ ((5 : Int32)).toNatClampNeg) := inb_of s33 ⟨by decide, by decide⟩
  have hat33 : c33.slots[((5 : Int32)).toNatClampNeg]? = some (.int (100 : Int32)) := Has.at y33 hin33 rfl
  have f35 : Arv Z h0 o0_ ko0_ .byte (6 : Int32) [(.int (102 : Int32)), (.int (97 : Int32)), (.int (105 : Int32)), (.int (108 : Int32)), (.int (101 : Int32)), (.int (100 : Int32))] (.int (0 : Int32)) := P0.ext O0.2
  obtain ⟨c34, r34, q34, s34, z34, y34, G34⟩ := id f35
  have pre36 : ∀ t, Steps p.tables e below (s₁.setTop (mkF m 33 #[.val (.ref o0_), .val (.ref o1_), .val (.int (6 : Int32))] [(.int (1 : Int32))])) t → Steps p.tables e below (s₁.setTop (entryFrame m #[(.ref o0_), (.ref o1_)] 3)) t := by
    intro t kt
    refine pre0 t ?_
    show Steps p.tables e below (s₁.setTop (mkF m 0 #[.val (.ref o0_), .val (.ref o1_), .unset] [])) _
    refine XS.aloadN X0.here hx rfl (hb hby d9_0) rfl rfl ?_
    show Steps p.tables e below (s₁.setTop (mkF m 1 #[.val (.ref o0_), .val (.ref o1_), .unset] [(.ref o0_)])) _
    refine X0.arraylength hx (by rw [e0]; exact r1.1) (State.isArrayOf_alike hZ.alike r1.2.1) (g := (mkF m 1 #[.val (.ref o0_), .val (.ref o1_), .unset] [(.ref o0_)])) rfl rfl (hb hby d9_1) _ ?_
    rw [len_of s1 z1]
    show Steps p.tables e below (s₁.setTop (mkF m 2 #[.val (.ref o0_), .val (.ref o1_), .unset] [(.int (6 : Int32))])) _
    refine XS.aloadN X0.here hx rfl (hb hby d9_2) rfl rfl ?_
    show Steps p.tables e below (s₁.setTop (mkF m 3 #[.val (.ref o0_), .val (.ref o1_), .unset] [(.ref o1_), (.int (6 : Int32))])) _
    refine X0.arraylength hx (by rw [e0]; exact r3.1) (State.isArrayOf_alike hZ.alike r3.2.1) (g := (mkF m 3 #[.val (.ref o0_), .val (.ref o1_), .unset] [(.ref o1_), (.int (6 : Int32))])) rfl rfl (hb hby d9_3) _ ?_
    rw [len_of s3 z3]
    show Steps p.tables e below (s₁.setTop (mkF m 4 #[.val (.ref o0_), .val (.ref o1_), .unset] [(.int (6 : Int32)), (.int (6 : Int32))])) _
    refine XS.icmpNo X0.here hx rfl (hb hby d9_4) rfl (teq (by decide : (6 : Int32) = (6 : Int32))).2 ?_
    show Steps p.tables e below (s₁.setTop (mkF m 7 #[.val (.ref o0_), .val (.ref o1_), .unset] [])) _
    refine XS.iconst X0.here hx rfl (hb hby d9_7) ?_
    show Steps p.tables e below (s₁.setTop (mkF m 8 #[.val (.ref o0_), .val (.ref o1_), .unset] [(.int (0 : Int32))])) _
    refine XS.istoreN X0.here hx rfl (hb hby d9_8) rfl (l' := #[.val (.ref o0_), .val (.ref o1_), .val (.int (0 : Int32))]) rfl ?_
    show Steps p.tables e below (s₁.setTop (mkF m 9 #[.val (.ref o0_), .val (.ref o1_), .val (.int (0 : Int32))] [])) _
    refine XS.iloadN X0.here hx rfl (hb hby d9_9) rfl ?_
    show Steps p.tables e below (s₁.setTop (mkF m 10 #[.val (.ref o0_), .val (.ref o1_), .val (.int (0 : Int32))] [(.int (0 : Int32))])) _
    refine XS.aloadN X0.here hx rfl (hb hby d9_10) rfl rfl ?_
    show Steps p.tables e below (s₁.setTop (mkF m 11 #[.val (.ref o0_), .val (.ref o1_), .val (.int (0 : Int32))] [(.ref o0_), (.int (0 : Int32))])) _
    refine X0.arraylength hx (by rw [e0]; exact r4.1) (State.isArrayOf_alike hZ.alike r4.2.1) (g := (mkF m 11 #[.val (.ref o0_), .val (.ref o1_), .val (.int (0 : Int32))] [(.ref o0_), (.int (0 : Int32))])) rfl rfl (hb hby d9_11) _ ?_
    rw [len_of s4 z4]
    show Steps p.tables e below (s₁.setTop (mkF m 12 #[.val (.ref o0_), .val (.ref o1_), .val (.int (0 : Int32))] [(.int (6 : Int32)), (.int (0 : Int32))])) _
    refine XS.icmpNo X0.here hx rfl (hb hby d9_12) rfl (tlt (by decide : (0 : Int32) < (6 : Int32))).2.1 ?_
    show Steps p.tables e below (s₁.setTop (mkF m 15 #[.val (.ref o0_), .val (.ref o1_), .val (.int (0 : Int32))] [])) _
    refine XS.aloadN X0.here hx rfl (hb hby d9_15) rfl rfl ?_
    show Steps p.tables e below (s₁.setTop (mkF m 16 #[.val (.ref o0_), .val (.ref o1_), .val (.int (0 : Int32))] [(.ref o0_)])) _
    refine XS.iloadN X0.here hx rfl (hb hby d9_16) rfl ?_
    show Steps p.tables e below (s₁.setTop (mkF m 17 #[.val (.ref o0_), .val (.ref o1_), .val (.int (0 : Int32))] [(.int (0 : Int32)), (.ref o0_)])) _
    refine X0.baloadBytes hx (j := (0 : Int32)) (v := (.int (102 : Int32))) (by rw [e0]; exact r7.1) (State.isArrayOf_alike hZ.alike r7.2.1) r7.2.2 hin7 hat7 (g := (mkF m 17 #[.val (.ref o0_), .val (.ref o1_), .val (.int (0 : Int32))] [(.int (0 : Int32)), (.ref o0_)])) rfl rfl (hb hby d9_17) _ ?_
    show Steps p.tables e below (s₁.setTop (mkF m 18 #[.val (.ref o0_), .val (.ref o1_), .val (.int (0 : Int32))] [(.int (102 : Int32))])) _
    refine XS.aloadN X0.here hx rfl (hb hby d9_18) rfl rfl ?_
    show Steps p.tables e below (s₁.setTop (mkF m 19 #[.val (.ref o0_), .val (.ref o1_), .val (.int (0 : Int32))] [(.ref o1_), (.int (102 : Int32))])) _
    refine XS.iloadN X0.here hx rfl (hb hby d9_19) rfl ?_
    show Steps p.tables e below (s₁.setTop (mkF m 20 #[.val (.ref o0_), .val (.ref o1_), .val (.int (0 : Int32))] [(.int (0 : Int32)), (.ref o1_), (.int (102 : Int32))])) _
    refine X0.baloadBytes hx (j := (0 : Int32)) (v := (.int (102 : Int32))) (by rw [e0]; exact r8.1) (State.isArrayOf_alike hZ.alike r8.2.1) r8.2.2 hin8 hat8 (g := (mkF m 20 #[.val (.ref o0_), .val (.ref o1_), .val (.int (0 : Int32))] [(.int (0 : Int32)), (.ref o1_), (.int (102 : Int32))])) rfl rfl (hb hby d9_20) _ ?_
    show Steps p.tables e below (s₁.setTop (mkF m 21 #[.val (.ref o0_), .val (.ref o1_), .val (.int (0 : Int32))] [(.int (102 : Int32)), (.int (102 : Int32))])) _
    refine XS.icmpYes X0.here hx rfl (pc0 := 21) (pc' := 26) rfl (hb hby d9_21) rfl (teq (by decide : (102 : Int32) = (102 : Int32))).1 (by decide) (by decide) ?_
    show Steps p.tables e below (s₁.setTop (mkF m 26 #[.val (.ref o0_), .val (.ref o1_), .val (.int (0 : Int32))] [])) _
    refine XS.iinc X0.here hx rfl (hb hby d9_26) rfl (l' := #[.val (.ref o0_), .val (.ref o1_), .val (.int (1 : Int32))]) rfl ?_
    show Steps p.tables e below (s₁.setTop (mkF m 29 #[.val (.ref o0_), .val (.ref o1_), .val (.int (1 : Int32))] [])) _
    refine XS.goto X0.here hx rfl (pc0 := 29) (pc' := 9) rfl (hb hby d9_29) (by decide) (by decide) ?_
    show Steps p.tables e below (s₁.setTop (mkF m 9 #[.val (.ref o0_), .val (.ref o1_), .val (.int (1 : Int32))] [])) _
    refine XS.iloadN X0.here hx rfl (hb hby d9_9) rfl ?_
    show Steps p.tables e below (s₁.setTop (mkF m 10 #[.val (.ref o0_), .val (.ref o1_), .val (.int (1 : Int32))] [(.int (1 : Int32))])) _
    refine XS.aloadN X0.here hx rfl (hb hby d9_10) rfl rfl ?_
    show Steps p.tables e below (s₁.setTop (mkF m 11 #[.val (.ref o0_), .val (.ref o1_), .val (.int (1 : Int32))] [(.ref o0_), (.int (1 : Int32))])) _
    refine X0.arraylength hx (by rw [e0]; exact r9.1) (State.isArrayOf_alike hZ.alike r9.2.1) (g := (mkF m 11 #[.val (.ref o0_), .val (.ref o1_), .val (.int (1 : Int32))] [(.ref o0_), (.int (1 : Int32))])) rfl rfl (hb hby d9_11) _ ?_
    rw [len_of s9 z9]
    show Steps p.tables e below (s₁.setTop (mkF m 12 #[.val (.ref o0_), .val (.ref o1_), .val (.int (1 : Int32))] [(.int (6 : Int32)), (.int (1 : Int32))])) _
    refine XS.icmpNo X0.here hx rfl (hb hby d9_12) rfl (tlt (by decide : (1 : Int32) < (6 : Int32))).2.1 ?_
    show Steps p.tables e below (s₁.setTop (mkF m 15 #[.val (.ref o0_), .val (.ref o1_), .val (.int (1 : Int32))] [])) _
    refine XS.aloadN X0.here hx rfl (hb hby d9_15) rfl rfl ?_
    show Steps p.tables e below (s₁.setTop (mkF m 16 #[.val (.ref o0_), .val (.ref o1_), .val (.int (1 : Int32))] [(.ref o0_)])) _
    refine XS.iloadN X0.here hx rfl (hb hby d9_16) rfl ?_
    show Steps p.tables e below (s₁.setTop (mkF m 17 #[.val (.ref o0_), .val (.ref o1_), .val (.int (1 : Int32))] [(.int (1 : Int32)), (.ref o0_)])) _
    refine X0.baloadBytes hx (j := (1 : Int32)) (v := (.int (97 : Int32))) (by rw [e0]; exact r12.1) (State.isArrayOf_alike hZ.alike r12.2.1) r12.2.2 hin12 hat12 (g := (mkF m 17 #[.val (.ref o0_), .val (.ref o1_), .val (.int (1 : Int32))] [(.int (1 : Int32)), (.ref o0_)])) rfl rfl (hb hby d9_17) _ ?_
    show Steps p.tables e below (s₁.setTop (mkF m 18 #[.val (.ref o0_), .val (.ref o1_), .val (.int (1 : Int32))] [(.int (97 : Int32))])) _
    refine XS.aloadN X0.here hx rfl (hb hby d9_18) rfl rfl ?_
    show Steps p.tables e below (s₁.setTop (mkF m 19 #[.val (.ref o0_), .val (.ref o1_), .val (.int (1 : Int32))] [(.ref o1_), (.int (97 : Int32))])) _
    refine XS.iloadN X0.here hx rfl (hb hby d9_19) rfl ?_
    show Steps p.tables e below (s₁.setTop (mkF m 20 #[.val (.ref o0_), .val (.ref o1_), .val (.int (1 : Int32))] [(.int (1 : Int32)), (.ref o1_), (.int (97 : Int32))])) _
    refine X0.baloadBytes hx (j := (1 : Int32)) (v := (.int (97 : Int32))) (by rw [e0]; exact r13.1) (State.isArrayOf_alike hZ.alike r13.2.1) r13.2.2 hin13 hat13 (g := (mkF m 20 #[.val (.ref o0_), .val (.ref o1_), .val (.int (1 : Int32))] [(.int (1 : Int32)), (.ref o1_), (.int (97 : Int32))])) rfl rfl (hb hby d9_20) _ ?_
    show Steps p.tables e below (s₁.setTop (mkF m 21 #[.val (.ref o0_), .val (.ref o1_), .val (.int (1 : Int32))] [(.int (97 : Int32)), (.int (97 : Int32))])) _
    refine XS.icmpYes X0.here hx rfl (pc0 := 21) (pc' := 26) rfl (hb hby d9_21) rfl (teq (by decide : (97 : Int32) = (97 : Int32))).1 (by decide) (by decide) ?_
    show Steps p.tables e below (s₁.setTop (mkF m 26 #[.val (.ref o0_), .val (.ref o1_), .val (.int (1 : Int32))] [])) _
    refine XS.iinc X0.here hx rfl (hb hby d9_26) rfl (l' := #[.val (.ref o0_), .val (.ref o1_), .val (.int (2 : Int32))]) rfl ?_
    show Steps p.tables e below (s₁.setTop (mkF m 29 #[.val (.ref o0_), .val (.ref o1_), .val (.int (2 : Int32))] [])) _
    refine XS.goto X0.here hx rfl (pc0 := 29) (pc' := 9) rfl (hb hby d9_29) (by decide) (by decide) ?_
    show Steps p.tables e below (s₁.setTop (mkF m 9 #[.val (.ref o0_), .val (.ref o1_), .val (.int (2 : Int32))] [])) _
    refine XS.iloadN X0.here hx rfl (hb hby d9_9) rfl ?_
    show Steps p.tables e below (s₁.setTop (mkF m 10 #[.val (.ref o0_), .val (.ref o1_), .val (.int (2 : Int32))] [(.int (2 : Int32))])) _
    refine XS.aloadN X0.here hx rfl (hb hby d9_10) rfl rfl ?_
    show Steps p.tables e below (s₁.setTop (mkF m 11 #[.val (.ref o0_), .val (.ref o1_), .val (.int (2 : Int32))] [(.ref o0_), (.int (2 : Int32))])) _
    refine X0.arraylength hx (by rw [e0]; exact r14.1) (State.isArrayOf_alike hZ.alike r14.2.1) (g := (mkF m 11 #[.val (.ref o0_), .val (.ref o1_), .val (.int (2 : Int32))] [(.ref o0_), (.int (2 : Int32))])) rfl rfl (hb hby d9_11) _ ?_
    rw [len_of s14 z14]
    show Steps p.tables e below (s₁.setTop (mkF m 12 #[.val (.ref o0_), .val (.ref o1_), .val (.int (2 : Int32))] [(.int (6 : Int32)), (.int (2 : Int32))])) _
    refine XS.icmpNo X0.here hx rfl (hb hby d9_12) rfl (tlt (by decide : (2 : Int32) < (6 : Int32))).2.1 ?_
    show Steps p.tables e below (s₁.setTop (mkF m 15 #[.val (.ref o0_), .val (.ref o1_), .val (.int (2 : Int32))] [])) _
    refine XS.aloadN X0.here hx rfl (hb hby d9_15) rfl rfl ?_
    show Steps p.tables e below (s₁.setTop (mkF m 16 #[.val (.ref o0_), .val (.ref o1_), .val (.int (2 : Int32))] [(.ref o0_)])) _
    refine XS.iloadN X0.here hx rfl (hb hby d9_16) rfl ?_
    show Steps p.tables e below (s₁.setTop (mkF m 17 #[.val (.ref o0_), .val (.ref o1_), .val (.int (2 : Int32))] [(.int (2 : Int32)), (.ref o0_)])) _
    refine X0.baloadBytes hx (j := (2 : Int32)) (v := (.int (105 : Int32))) (by rw [e0]; exact r17.1) (State.isArrayOf_alike hZ.alike r17.2.1) r17.2.2 hin17 hat17 (g := (mkF m 17 #[.val (.ref o0_), .val (.ref o1_), .val (.int (2 : Int32))] [(.int (2 : Int32)), (.ref o0_)])) rfl rfl (hb hby d9_17) _ ?_
    show Steps p.tables e below (s₁.setTop (mkF m 18 #[.val (.ref o0_), .val (.ref o1_), .val (.int (2 : Int32))] [(.int (105 : Int32))])) _
    refine XS.aloadN X0.here hx rfl (hb hby d9_18) rfl rfl ?_
    show Steps p.tables e below (s₁.setTop (mkF m 19 #[.val (.ref o0_), .val (.ref o1_), .val (.int (2 : Int32))] [(.ref o1_), (.int (105 : Int32))])) _
    refine XS.iloadN X0.here hx rfl (hb hby d9_19) rfl ?_
    show Steps p.tables e below (s₁.setTop (mkF m 20 #[.val (.ref o0_), .val (.ref o1_), .val (.int (2 : Int32))] [(.int (2 : Int32)), (.ref o1_), (.int (105 : Int32))])) _
    refine X0.baloadBytes hx (j := (2 : Int32)) (v := (.int (105 : Int32))) (by rw [e0]; exact r18.1) (State.isArrayOf_alike hZ.alike r18.2.1) r18.2.2 hin18 hat18 (g := (mkF m 20 #[.val (.ref o0_), .val (.ref o1_), .val (.int (2 : Int32))] [(.int (2 : Int32)), (.ref o1_), (.int (105 : Int32))])) rfl rfl (hb hby d9_20) _ ?_
    show Steps p.tables e below (s₁.setTop (mkF m 21 #[.val (.ref o0_), .val (.ref o1_), .val (.int (2 : Int32))] [(.int (105 : Int32)), (.int (105 : Int32))])) _
    refine XS.icmpYes X0.here hx rfl (pc0 := 21) (pc' := 26) rfl (hb hby d9_21) rfl (teq (by decide : (105 : Int32) = (105 : Int32))).1 (by decide) (by decide) ?_
    show Steps p.tables e below (s₁.setTop (mkF m 26 #[.val (.ref o0_), .val (.ref o1_), .val (.int (2 : Int32))] [])) _
    refine XS.iinc X0.here hx rfl (hb hby d9_26) rfl (l' := #[.val (.ref o0_), .val (.ref o1_), .val (.int (3 : Int32))]) rfl ?_
    show Steps p.tables e below (s₁.setTop (mkF m 29 #[.val (.ref o0_), .val (.ref o1_), .val (.int (3 : Int32))] [])) _
    refine XS.goto X0.here hx rfl (pc0 := 29) (pc' := 9) rfl (hb hby d9_29) (by decide) (by decide) ?_
    show Steps p.tables e below (s₁.setTop (mkF m 9 #[.val (.ref o0_), .val (.ref o1_), .val (.int (3 : Int32))] [])) _
    refine XS.iloadN X0.here hx rfl (hb hby d9_9) rfl ?_
    show Steps p.tables e below (s₁.setTop (mkF m 10 #[.val (.ref o0_), .val (.ref o1_), .val (.int (3 : Int32))] [(.int (3 : Int32))])) _
    refine XS.aloadN X0.here hx rfl (hb hby d9_10) rfl rfl ?_
    show Steps p.tables e below (s₁.setTop (mkF m 11 #[.val (.ref o0_), .val (.ref o1_), .val (.int (3 : Int32))] [(.ref o0_), (.int (3 : Int32))])) _
    refine X0.arraylength hx (by rw [e0]; exact r19.1) (State.isArrayOf_alike hZ.alike r19.2.1) (g := (mkF m 11 #[.val (.ref o0_), .val (.ref o1_), .val (.int (3 : Int32))] [(.ref o0_), (.int (3 : Int32))])) rfl rfl (hb hby d9_11) _ ?_
    rw [len_of s19 z19]
    show Steps p.tables e below (s₁.setTop (mkF m 12 #[.val (.ref o0_), .val (.ref o1_), .val (.int (3 : Int32))] [(.int (6 : Int32)), (.int (3 : Int32))])) _
    refine XS.icmpNo X0.here hx rfl (hb hby d9_12) rfl (tlt (by decide : (3 : Int32) < (6 : Int32))).2.1 ?_
    show Steps p.tables e below (s₁.setTop (mkF m 15 #[.val (.ref o0_), .val (.ref o1_), .val (.int (3 : Int32))] [])) _
    refine XS.aloadN X0.here hx rfl (hb hby d9_15) rfl rfl ?_
    show Steps p.tables e below (s₁.setTop (mkF m 16 #[.val (.ref o0_), .val (.ref o1_), .val (.int (3 : Int32))] [(.ref o0_)])) _
    refine XS.iloadN X0.here hx rfl (hb hby d9_16) rfl ?_
    show Steps p.tables e below (s₁.setTop (mkF m 17 #[.val (.ref o0_), .val (.ref o1_), .val (.int (3 : Int32))] [(.int (3 : Int32)), (.ref o0_)])) _
    refine X0.baloadBytes hx (j := (3 : Int32)) (v := (.int (108 : Int32))) (by rw [e0]; exact r22.1) (State.isArrayOf_alike hZ.alike r22.2.1) r22.2.2 hin22 hat22 (g := (mkF m 17 #[.val (.ref o0_), .val (.ref o1_), .val (.int (3 : Int32))] [(.int (3 : Int32)), (.ref o0_)])) rfl rfl (hb hby d9_17) _ ?_
    show Steps p.tables e below (s₁.setTop (mkF m 18 #[.val (.ref o0_), .val (.ref o1_), .val (.int (3 : Int32))] [(.int (108 : Int32))])) _
    refine XS.aloadN X0.here hx rfl (hb hby d9_18) rfl rfl ?_
    show Steps p.tables e below (s₁.setTop (mkF m 19 #[.val (.ref o0_), .val (.ref o1_), .val (.int (3 : Int32))] [(.ref o1_), (.int (108 : Int32))])) _
    refine XS.iloadN X0.here hx rfl (hb hby d9_19) rfl ?_
    show Steps p.tables e below (s₁.setTop (mkF m 20 #[.val (.ref o0_), .val (.ref o1_), .val (.int (3 : Int32))] [(.int (3 : Int32)), (.ref o1_), (.int (108 : Int32))])) _
    refine X0.baloadBytes hx (j := (3 : Int32)) (v := (.int (108 : Int32))) (by rw [e0]; exact r23.1) (State.isArrayOf_alike hZ.alike r23.2.1) r23.2.2 hin23 hat23 (g := (mkF m 20 #[.val (.ref o0_), .val (.ref o1_), .val (.int (3 : Int32))] [(.int (3 : Int32)), (.ref o1_), (.int (108 : Int32))])) rfl rfl (hb hby d9_20) _ ?_
    show Steps p.tables e below (s₁.setTop (mkF m 21 #[.val (.ref o0_), .val (.ref o1_), .val (.int (3 : Int32))] [(.int (108 : Int32)), (.int (108 : Int32))])) _
    refine XS.icmpYes X0.here hx rfl (pc0 := 21) (pc' := 26) rfl (hb hby d9_21) rfl (teq (by decide : (108 : Int32) = (108 : Int32))).1 (by decide) (by decide) ?_
    show Steps p.tables e below (s₁.setTop (mkF m 26 #[.val (.ref o0_), .val (.ref o1_), .val (.int (3 : Int32))] [])) _
    refine XS.iinc X0.here hx rfl (hb hby d9_26) rfl (l' := #[.val (.ref o0_), .val (.ref o1_), .val (.int (4 : Int32))]) rfl ?_
    show Steps p.tables e below (s₁.setTop (mkF m 29 #[.val (.ref o0_), .val (.ref o1_), .val (.int (4 : Int32))] [])) _
    refine XS.goto X0.here hx rfl (pc0 := 29) (pc' := 9) rfl (hb hby d9_29) (by decide) (by decide) ?_
    show Steps p.tables e below (s₁.setTop (mkF m 9 #[.val (.ref o0_), .val (.ref o1_), .val (.int (4 : Int32))] [])) _
    refine XS.iloadN X0.here hx rfl (hb hby d9_9) rfl ?_
    show Steps p.tables e below (s₁.setTop (mkF m 10 #[.val (.ref o0_), .val (.ref o1_), .val (.int (4 : Int32))] [(.int (4 : Int32))])) _
    refine XS.aloadN X0.here hx rfl (hb hby d9_10) rfl rfl ?_
    show Steps p.tables e below (s₁.setTop (mkF m 11 #[.val (.ref o0_), .val (.ref o1_), .val (.int (4 : Int32))] [(.ref o0_), (.int (4 : Int32))])) _
    refine X0.arraylength hx (by rw [e0]; exact r24.1) (State.isArrayOf_alike hZ.alike r24.2.1) (g := (mkF m 11 #[.val (.ref o0_), .val (.ref o1_), .val (.int (4 : Int32))] [(.ref o0_), (.int (4 : Int32))])) rfl rfl (hb hby d9_11) _ ?_
    rw [len_of s24 z24]
    show Steps p.tables e below (s₁.setTop (mkF m 12 #[.val (.ref o0_), .val (.ref o1_), .val (.int (4 : Int32))] [(.int (6 : Int32)), (.int (4 : Int32))])) _
    refine XS.icmpNo X0.here hx rfl (hb hby d9_12) rfl (tlt (by decide : (4 : Int32) < (6 : Int32))).2.1 ?_
    show Steps p.tables e below (s₁.setTop (mkF m 15 #[.val (.ref o0_), .val (.ref o1_), .val (.int (4 : Int32))] [])) _
    refine XS.aloadN X0.here hx rfl (hb hby d9_15) rfl rfl ?_
    show Steps p.tables e below (s₁.setTop (mkF m 16 #[.val (.ref o0_), .val (.ref o1_), .val (.int (4 : Int32))] [(.ref o0_)])) _
    refine XS.iloadN X0.here hx rfl (hb hby d9_16) rfl ?_
    show Steps p.tables e below (s₁.setTop (mkF m 17 #[.val (.ref o0_), .val (.ref o1_), .val (.int (4 : Int32))] [(.int (4 : Int32)), (.ref o0_)])) _
    refine X0.baloadBytes hx (j := (4 : Int32)) (v := (.int (101 : Int32))) (by rw [e0]; exact r27.1) (State.isArrayOf_alike hZ.alike r27.2.1) r27.2.2 hin27 hat27 (g := (mkF m 17 #[.val (.ref o0_), .val (.ref o1_), .val (.int (4 : Int32))] [(.int (4 : Int32)), (.ref o0_)])) rfl rfl (hb hby d9_17) _ ?_
    show Steps p.tables e below (s₁.setTop (mkF m 18 #[.val (.ref o0_), .val (.ref o1_), .val (.int (4 : Int32))] [(.int (101 : Int32))])) _
    refine XS.aloadN X0.here hx rfl (hb hby d9_18) rfl rfl ?_
    show Steps p.tables e below (s₁.setTop (mkF m 19 #[.val (.ref o0_), .val (.ref o1_), .val (.int (4 : Int32))] [(.ref o1_), (.int (101 : Int32))])) _
    refine XS.iloadN X0.here hx rfl (hb hby d9_19) rfl ?_
    show Steps p.tables e below (s₁.setTop (mkF m 20 #[.val (.ref o0_), .val (.ref o1_), .val (.int (4 : Int32))] [(.int (4 : Int32)), (.ref o1_), (.int (101 : Int32))])) _
    refine X0.baloadBytes hx (j := (4 : Int32)) (v := (.int (101 : Int32))) (by rw [e0]; exact r28.1) (State.isArrayOf_alike hZ.alike r28.2.1) r28.2.2 hin28 hat28 (g := (mkF m 20 #[.val (.ref o0_), .val (.ref o1_), .val (.int (4 : Int32))] [(.int (4 : Int32)), (.ref o1_), (.int (101 : Int32))])) rfl rfl (hb hby d9_20) _ ?_
    show Steps p.tables e below (s₁.setTop (mkF m 21 #[.val (.ref o0_), .val (.ref o1_), .val (.int (4 : Int32))] [(.int (101 : Int32)), (.int (101 : Int32))])) _
    refine XS.icmpYes X0.here hx rfl (pc0 := 21) (pc' := 26) rfl (hb hby d9_21) rfl (teq (by decide : (101 : Int32) = (101 : Int32))).1 (by decide) (by decide) ?_
    show Steps p.tables e below (s₁.setTop (mkF m 26 #[.val (.ref o0_), .val (.ref o1_), .val (.int (4 : Int32))] [])) _
    refine XS.iinc X0.here hx rfl (hb hby d9_26) rfl (l' := #[.val (.ref o0_), .val (.ref o1_), .val (.int (5 : Int32))]) rfl ?_
    show Steps p.tables e below (s₁.setTop (mkF m 29 #[.val (.ref o0_), .val (.ref o1_), .val (.int (5 : Int32))] [])) _
    refine XS.goto X0.here hx rfl (pc0 := 29) (pc' := 9) rfl (hb hby d9_29) (by decide) (by decide) ?_
    show Steps p.tables e below (s₁.setTop (mkF m 9 #[.val (.ref o0_), .val (.ref o1_), .val (.int (5 : Int32))] [])) _
    refine XS.iloadN X0.here hx rfl (hb hby d9_9) rfl ?_
    show Steps p.tables e below (s₁.setTop (mkF m 10 #[.val (.ref o0_), .val (.ref o1_), .val (.int (5 : Int32))] [(.int (5 : Int32))])) _
    refine XS.aloadN X0.here hx rfl (hb hby d9_10) rfl rfl ?_
    show Steps p.tables e below (s₁.setTop (mkF m 11 #[.val (.ref o0_), .val (.ref o1_), .val (.int (5 : Int32))] [(.ref o0_), (.int (5 : Int32))])) _
    refine X0.arraylength hx (by rw [e0]; exact r29.1) (State.isArrayOf_alike hZ.alike r29.2.1) (g := (mkF m 11 #[.val (.ref o0_), .val (.ref o1_), .val (.int (5 : Int32))] [(.ref o0_), (.int (5 : Int32))])) rfl rfl (hb hby d9_11) _ ?_
    rw [len_of s29 z29]
    show Steps p.tables e below (s₁.setTop (mkF m 12 #[.val (.ref o0_), .val (.ref o1_), .val (.int (5 : Int32))] [(.int (6 : Int32)), (.int (5 : Int32))])) _
    refine XS.icmpNo X0.here hx rfl (hb hby d9_12) rfl (tlt (by decide : (5 : Int32) < (6 : Int32))).2.1 ?_
    show Steps p.tables e below (s₁.setTop (mkF m 15 #[.val (.ref o0_), .val (.ref o1_), .val (.int (5 : Int32))] [])) _
    refine XS.aloadN X0.here hx rfl (hb hby d9_15) rfl rfl ?_
    show Steps p.tables e below (s₁.setTop (mkF m 16 #[.val (.ref o0_), .val (.ref o1_), .val (.int (5 : Int32))] [(.ref o0_)])) _
    refine XS.iloadN X0.here hx rfl (hb hby d9_16) rfl ?_
    show Steps p.tables e below (s₁.setTop (mkF m 17 #[.val (.ref o0_), .val (.ref o1_), .val (.int (5 : Int32))] [(.int (5 : Int32)), (.ref o0_)])) _
    refine X0.baloadBytes hx (j := (5 : Int32)) (v := (.int (100 : Int32))) (by rw [e0]; exact r32.1) (State.isArrayOf_alike hZ.alike r32.2.1) r32.2.2 hin32 hat32 (g := (mkF m 17 #[.val (.ref o0_), .val (.ref o1_), .val (.int (5 : Int32))] [(.int (5 : Int32)), (.ref o0_)])) rfl rfl (hb hby d9_17) _ ?_
    show Steps p.tables e below (s₁.setTop (mkF m 18 #[.val (.ref o0_), .val (.ref o1_), .val (.int (5 : Int32))] [(.int (100 : Int32))])) _
    refine XS.aloadN X0.here hx rfl (hb hby d9_18) rfl rfl ?_
    show Steps p.tables e below (s₁.setTop (mkF m 19 #[.val (.ref o0_), .val (.ref o1_), .val (.int (5 : Int32))] [(.ref o1_), (.int (100 : Int32))])) _
    refine XS.iloadN X0.here hx rfl (hb hby d9_19) rfl ?_
    show Steps p.tables e below (s₁.setTop (mkF m 20 #[.val (.ref o0_), .val (.ref o1_), .val (.int (5 : Int32))] [(.int (5 : Int32)), (.ref o1_), (.int (100 : Int32))])) _
    refine X0.baloadBytes hx (j := (5 : Int32)) (v := (.int (100 : Int32))) (by rw [e0]; exact r33.1) (State.isArrayOf_alike hZ.alike r33.2.1) r33.2.2 hin33 hat33 (g := (mkF m 20 #[.val (.ref o0_), .val (.ref o1_), .val (.int (5 : Int32))] [(.int (5 : Int32)), (.ref o1_), (.int (100 : Int32))])) rfl rfl (hb hby d9_20) _ ?_
    show Steps p.tables e below (s₁.setTop (mkF m 21 #[.val (.ref o0_), .val (.ref o1_), .val (.int (5 : Int32))] [(.int (100 : Int32)), (.int (100 : Int32))])) _
    refine XS.icmpYes X0.here hx rfl (pc0 := 21) (pc' := 26) rfl (hb hby d9_21) rfl (teq (by decide : (100 : Int32) = (100 : Int32))).1 (by decide) (by decide) ?_
    show Steps p.tables e below (s₁.setTop (mkF m 26 #[.val (.ref o0_), .val (.ref o1_), .val (.int (5 : Int32))] [])) _
    refine XS.iinc X0.here hx rfl (hb hby d9_26) rfl (l' := #[.val (.ref o0_), .val (.ref o1_), .val (.int (6 : Int32))]) rfl ?_
    show Steps p.tables e below (s₁.setTop (mkF m 29 #[.val (.ref o0_), .val (.ref o1_), .val (.int (6 : Int32))] [])) _
    refine XS.goto X0.here hx rfl (pc0 := 29) (pc' := 9) rfl (hb hby d9_29) (by decide) (by decide) ?_
    show Steps p.tables e below (s₁.setTop (mkF m 9 #[.val (.ref o0_), .val (.ref o1_), .val (.int (6 : Int32))] [])) _
    refine XS.iloadN X0.here hx rfl (hb hby d9_9) rfl ?_
    show Steps p.tables e below (s₁.setTop (mkF m 10 #[.val (.ref o0_), .val (.ref o1_), .val (.int (6 : Int32))] [(.int (6 : Int32))])) _
    refine XS.aloadN X0.here hx rfl (hb hby d9_10) rfl rfl ?_
    show Steps p.tables e below (s₁.setTop (mkF m 11 #[.val (.ref o0_), .val (.ref o1_), .val (.int (6 : Int32))] [(.ref o0_), (.int (6 : Int32))])) _
    refine X0.arraylength hx (by rw [e0]; exact r34.1) (State.isArrayOf_alike hZ.alike r34.2.1) (g := (mkF m 11 #[.val (.ref o0_), .val (.ref o1_), .val (.int (6 : Int32))] [(.ref o0_), (.int (6 : Int32))])) rfl rfl (hb hby d9_11) _ ?_
    rw [len_of s34 z34]
    show Steps p.tables e below (s₁.setTop (mkF m 12 #[.val (.ref o0_), .val (.ref o1_), .val (.int (6 : Int32))] [(.int (6 : Int32)), (.int (6 : Int32))])) _
    refine XS.icmpYes X0.here hx rfl (pc0 := 12) (pc' := 32) rfl (hb hby d9_12) rfl (flt (by decide : ¬ ((6 : Int32) < (6 : Int32)))).2.1 (by decide) (by decide) ?_
    show Steps p.tables e below (s₁.setTop (mkF m 32 #[.val (.ref o0_), .val (.ref o1_), .val (.int (6 : Int32))] [])) _
    refine XS.iconst X0.here hx rfl (hb hby d9_32) ?_
    exact kt
  obtain ⟨fs, hr, hrun, hended, hW, hsame⟩ := X0.leave (v := some (.int (1 : Int32))) (fun h => by rw [Bd.returns] at h; cases h)
  refine ⟨_, _, pre36 _ (retN X0 hx (t := .boolean) Bd.returns (by simp) (hb hby d9_33) hr), hrun, hended, _, _, rfl, ?_, ⟨_, rfl⟩, hW, hsame.mono (by decide) (by decide)⟩
  show Qequals42 Z o0_ o1_ ko0_ ko1_ h0 n0 _ s₁.heap _
  rw [e0]
  exact ⟨rfl, N0, rfl⟩
theorem efequals41 (m : MethodId) (o0_ : Addr) (o1_ : Addr) : entryFrame m #[(.ref o0_), (.ref o1_)] 3 = mkF m 0 #[.val (.ref o0_), .val (.ref o1_), .unset] [] := by first | (simp [entryFrame, mkF, argsToLocals, Value.category]; done) | rfl
def Qequals41 (Z : State) (o0_ : Addr) (o1_ : Addr) (o2_ : Addr) (o3_ : Addr) (ko2_ : ClassId) (ko3_ : ClassId) (x0_ : Int32) (h0 : Heap) (n0 : Nat) (v : Option Value) (h : Heap) (L : List Loc) : Prop := v = some (.int (1 : Int32)) ∧ Fr n0 L ∧ h = h0
set_option maxRecDepth 65536 in
set_option maxHeartbeats 40000000 in
theorem rmequals41 (l : Launch) (Z : State) (a0 : Array Value) (hw : ∀ d ∈ tables_1, d.before a0 Z = true) (ws : List Jvm.Cond) (o0_ : Addr) (o1_ : Addr) (o2_ : Addr) (o3_ : Addr) (ko2_ : ClassId) (ko3_ : ClassId) (x0_ : Int32) (h0 : Heap) (n0 : Nat) (O0 : Old Z n0 h0) (P0 : Exa Z Z.heap o0_ "java/lang/String") (P1 : Fld Z Z.heap o0_ "java/lang/String" "value" "[B" (.ref o2_)) (P2 : Fld Z Z.heap o0_ "java/lang/String" "coder" "B" (.int (0 : Int32))) (P3 : Exa Z h0 o1_ "java/lang/String") (P4 : Fld Z h0 o1_ "java/lang/String" "coder" "B" (.int (0 : Int32))) (P5 : Fld Z h0 o1_ "java/lang/String" "value" "[B" (.ref o3_)) (P6 : Arv Z Z.heap o2_ ko2_ .byte (6 : Int32) [(.int (102 : Int32)), (.int (97 : Int32)), (.int (105 : Int32)), (.int (108 : Int32)), (.int (101 : Int32)), (.int (100 : Int32))] (.int (0 : Int32))) (P7 : Arv Z h0 o3_ ko3_ .byte (6 : Int32) [(.int (102 : Int32)), (.int (97 : Int32)), (.int (105 : Int32)), (.int (108 : Int32)), (.int (101 : Int32)), (.int (100 : Int32))] (.int (0 : Int32))) (P8 : Exa Z h0 o3_ "[B") (P9 : n0 ≤ o1_) (P10 : ¬ (x0_ = (0 : Int32))) (P11 : Sta Z Z.heap "java/lang/String" "COMPACT_STRINGS" "Z" (.int x0_)) :
    MetFree l (⟨"java/lang/String", "equals", "(Ljava/lang/Object;)Z"⟩ : MethodName) (head1 (Jvm.Cond.code (⟨"java/lang/String", "equals", "(Ljava/lang/Object;)Z"⟩ : MethodName) jdk_42_method_66_code 3 (some .boolean) :: ws) ({ frames := 1, cells := 0, slots := 0, locals := 14 } : Room)) (fun a U => a = #[(.ref o0_), (.ref o1_)] ∧ Z.Warmed39 U.vm ∧ U.heap = h0) (fun _ _ _ _ _ => True) (fun _ U o U' => ∃ v L, o = .returned v ∧ Qequals41 Z o0_ o1_ o2_ o3_ ko2_ ko3_ x0_ h0 n0 v U'.heap L ∧ FrameEnd U o U' L ({ frames := 1, cells := 0, slots := 0, locals := 14 } : Room).cells ({ frames := 1, cells := 0, slots := 0, locals := 14 } : Room).slots) := by
  refine MetFree.of_bodySF (plainFor_of_name pn_1) hisR ?_
  intro p e s m args below meth c s₁ Bd hml0 hP hK
  obtain ⟨rfl, hZ, hh⟩ := hP
  have hx := Bd.exec
  have hby := Bd.bytes
  have hml : c.maxLocals = 3 := hml0
  have hown : s.vm.findClass "java/lang/String" = some m.cls := findClass_of_methodNamed Bd.named
  have hnm := (name_of_methodNamed Bd.named Bd.method).1
  have X0 : Stand p l e ({ frames := 1, cells := 0, slots := 0, locals := 14 } : Room) s m #[(.ref o0_), (.ref o1_)] below meth c s₁ [] 0 0 := Stand.of_body Bd
  have e0 : s₁.heap = h0 := by rw [← hh, Bd.state]; rfl
  have N0 := Fr.nil n0
  have pre0 : ∀ t, Steps p.tables e below (s₁.setTop (mkF m 0 #[.val (.ref o0_), .val (.ref o1_), .unset] [])) t → Steps p.tables e below (s₁.setTop (entryFrame m #[(.ref o0_), (.ref o1_)] 3)) t := fun t k => castTop (efequals41 m o0_ o1_) k
  have K0 : Keep h0 h0 [] := Keep.refl _ _
  have ne1 : o0_ ≠ o1_ := O0.ne P0.lt P9
  obtain ⟨T2, X2, e2, st2⟩ := instY X0 hx hZ hown (hw _ (List.mem_of_getElem? (i := 61) rfl)) e0 (Ins.self P3) (g := (mkF m 8 #[.val (.ref o0_), .val (.ref o1_), .unset] [(.ref o1_)])) rfl rfl (hb hby d8_8)
  obtain ⟨T3, X3, e3, st3⟩ := castY X2 hx hZ hown (hw _ (List.mem_of_getElem? (i := 61) rfl)) e2 (Ins.self P3) (g := (mkF m 15 #[.val (.ref o0_), .val (.ref o1_), .unset] [(.ref o1_)])) rfl rfl (hb hby d8_15)
  obtain ⟨T4, X4, e4, st4⟩ := getS2 X3 hx hZ hown (host := "") (Or.inl (hw _ (List.mem_of_getElem? (i := 18) rfl))) Via.refl e3 (P11.ext O0.2) (g := (mkF m 19 #[.val (.ref o0_), .val (.ref o1_), .val (.ref o1_)] [])) rfl (hb hby d8_19)
  have f5 : Fld Z h0 o0_ "java/lang/String" "coder" "B" (.int (0 : Int32)) := P2.ext O0.2
  obtain ⟨T6, X6, e6, st6⟩ := getF X4 hx hZ hown (host := "") (Or.inl (hw _ (List.mem_of_getElem? (i := 30) rfl))) Via.refl e4 f5 (g := (mkF m 26 #[.val (.ref o0_), .val (.ref o1_), .val (.ref o1_)] [(.ref o0_)])) rfl rfl (hb hby d8_26)
  obtain ⟨T7, X7, e7, st7⟩ := getF X6 hx hZ hown (host := "") (Or.inl (hw _ (List.mem_of_getElem? (i := 30) rfl))) Via.refl e6 P4 (g := (mkF m 30 #[.val (.ref o0_), .val (.ref o1_), .val (.ref o1_)] [(.ref o1_), (.int (0 : Int32))])) rfl rfl (hb hby d8_30)
  have f8 : Fld Z h0 o0_ "java/lang/String" "value" "[B" (.ref o2_) := P1.ext O0.2
  obtain ⟨T9, X9, e9, st9⟩ := getF X7 hx hZ hown (host := "") (Or.inl (hw _ (List.mem_of_getElem? (i := 32) rfl))) Via.refl e7 f8 (g := (mkF m 37 #[.val (.ref o0_), .val (.ref o1_), .val (.ref o1_)] [(.ref o0_)])) rfl rfl (hb hby d8_37)
  obtain ⟨T10, X10, e10, st10⟩ := getF X9 hx hZ hown (host := "") (Or.inl (hw _ (List.mem_of_getElem? (i := 32) rfl))) Via.refl e9 P5 (g := (mkF m 41 #[.val (.ref o0_), .val (.ref o1_), .val (.ref o1_)] [(.ref o1_), (.ref o2_)])) rfl rfl (hb hby d8_41)
  obtain ⟨_, _, ⟨T11, L11, k11, n11⟩, -, X11, ⟨Lc11, hQ11, l11, y11, z11⟩, st11⟩ := Jvm.LawKit.callS X10 hx (y := (⟨"java/lang/StringLatin1", "equals", "([B[B)Z"⟩ : MethodName)) hown (mvT hZ (hw _ (List.mem_of_getElem? (i := 62) rfl))) (mvT hZ (hw _ (List.mem_of_getElem? (i := 63) rfl))) (mvT hZ (hw _ (List.mem_of_getElem? (i := 64) rfl))) (mvT hZ (hw _ (List.mem_of_getElem? (i := 65) rfl))) (by decide) (backOf (W := 0) (rmequals42 l Z a0 hw [] o2_ o3_ ko2_ ko3_ h0 n0 O0 P6 P7 P8) hZ (hw _ (List.mem_of_getElem? (i := 65) rfl)) (hw _ (List.mem_of_getElem? (i := 64) rfl)) (by decide) (by decide)) (g := (mkF m 44 #[.val (.ref o0_), .val (.ref o1_), .val (.ref o1_)] [(.ref o3_), (.ref o2_)])) rfl (by rw [hml]; rfl) (argsL := [(.ref o2_), (.ref o3_)]) (rest := []) (lenOf pd_6 rfl) rfl (by show 2 * 0 + _ ≤ _; exact Nat.le_of_eq rfl) (hb hby d8_44) (fun _ _ => ⟨rfl, e10, (by decide : 0 + 0 ≤ _), (by decide : 0 + 0 ≤ _)⟩)
  dsimp only [Pt.U, Pt.locs, Pt.cells, Pt.slots] at X11 l11 y11 z11 st11 hQ11
  subst l11 y11 z11
  obtain ⟨h11, e11⟩ : ∃ z, T11.heap = z := ⟨_, rfl⟩
  rw [e11] at hQ11
  obtain ⟨rfl, N11q, hh11⟩ := hQ11
  have N12 := Fr.app N0 N11q
  have e11' : T11.heap = h0 := e11.trans hh11
  have pre13 : ∀ t, Steps p.tables e below (T11.setTop (mkF m 55 #[.val (.ref o0_), .val (.ref o1_), .val (.ref o1_)] [(.int (1 : Int32))])) t → Steps p.tables e below (s₁.setTop (entryFrame m #[(.ref o0_), (.ref o1_)] 3)) t := by
    intro t kt
    refine pre0 t ?_
    show Steps p.tables e below (s₁.setTop (mkF m 0 #[.val (.ref o0_), .val (.ref o1_), .unset] [])) _
    refine XS.aloadN X0.here hx rfl (hb hby d8_0) rfl rfl ?_
    show Steps p.tables e below (s₁.setTop (mkF m 1 #[.val (.ref o0_), .val (.ref o1_), .unset] [(.ref o0_)])) _
    refine XS.aloadN X0.here hx rfl (hb hby d8_1) rfl rfl ?_
    show Steps p.tables e below (s₁.setTop (mkF m 2 #[.val (.ref o0_), .val (.ref o1_), .unset] [(.ref o1_), (.ref o0_)])) _
    refine Jvm.RoadKit.acmp (g := (mkF m 2 #[.val (.ref o0_), .val (.ref o1_), .unset] [(.ref o1_), (.ref o0_)])) X0 hx rfl rfl rfl (pc0 := 2) (pc' := 7) (same := false) rfl (hb hby d8_2) rfl (decide_eq_false fun q => ne1 (Value.ref.inj q)) (by decide) (by decide) ?_
    show Steps p.tables e below (s₁.setTop (mkF m 7 #[.val (.ref o0_), .val (.ref o1_), .unset] [])) _
    refine XS.aloadN X0.here hx rfl (hb hby d8_7) rfl rfl ?_
    show Steps p.tables e below (s₁.setTop (mkF m 8 #[.val (.ref o0_), .val (.ref o1_), .unset] [(.ref o1_)])) _
    refine st2 _ ?_
    show Steps p.tables e below (T2.setTop (mkF m 11 #[.val (.ref o0_), .val (.ref o1_), .unset] [(.int (1 : Int32))])) _
    refine XS.ifNo X2.here hx rfl (hb hby d8_11) rfl ((if0 _ _).trans (feq (by decide : ¬ ((1 : Int32) = (0 : Int32)))).1) ?_
    show Steps p.tables e below (T2.setTop (mkF m 14 #[.val (.ref o0_), .val (.ref o1_), .unset] [])) _
    refine XS.aloadN X2.here hx rfl (hb hby d8_14) rfl rfl ?_
    show Steps p.tables e below (T2.setTop (mkF m 15 #[.val (.ref o0_), .val (.ref o1_), .unset] [(.ref o1_)])) _
    refine st3 _ ?_
    show Steps p.tables e below (T3.setTop (mkF m 18 #[.val (.ref o0_), .val (.ref o1_), .unset] [(.ref o1_)])) _
    refine XS.astoreN X3.here hx rfl (hb hby d8_18) rfl rfl (l' := #[.val (.ref o0_), .val (.ref o1_), .val (.ref o1_)]) rfl ?_
    show Steps p.tables e below (T3.setTop (mkF m 19 #[.val (.ref o0_), .val (.ref o1_), .val (.ref o1_)] [])) _
    refine st4 _ ?_
    show Steps p.tables e below (T4.setTop (mkF m 22 #[.val (.ref o0_), .val (.ref o1_), .val (.ref o1_)] [(.int x0_)])) _
    refine XS.ifNo X4.here hx rfl (hb hby d8_22) rfl ((if0 _ _).trans (feq P10).1) ?_
    show Steps p.tables e below (T4.setTop (mkF m 25 #[.val (.ref o0_), .val (.ref o1_), .val (.ref o1_)] [])) _
    refine XS.aloadN X4.here hx rfl (hb hby d8_25) rfl rfl ?_
    show Steps p.tables e below (T4.setTop (mkF m 26 #[.val (.ref o0_), .val (.ref o1_), .val (.ref o1_)] [(.ref o0_)])) _
    refine st6 _ ?_
    show Steps p.tables e below (T6.setTop (mkF m 29 #[.val (.ref o0_), .val (.ref o1_), .val (.ref o1_)] [(.int (0 : Int32))])) _
    refine XS.aloadN X6.here hx rfl (hb hby d8_29) rfl rfl ?_
    show Steps p.tables e below (T6.setTop (mkF m 30 #[.val (.ref o0_), .val (.ref o1_), .val (.ref o1_)] [(.ref o1_), (.int (0 : Int32))])) _
    refine st7 _ ?_
    show Steps p.tables e below (T7.setTop (mkF m 33 #[.val (.ref o0_), .val (.ref o1_), .val (.ref o1_)] [(.int (0 : Int32)), (.int (0 : Int32))])) _
    refine XS.icmpNo X7.here hx rfl (hb hby d8_33) rfl (teq (by decide : (0 : Int32) = (0 : Int32))).2 ?_
    show Steps p.tables e below (T7.setTop (mkF m 36 #[.val (.ref o0_), .val (.ref o1_), .val (.ref o1_)] [])) _
    refine XS.aloadN X7.here hx rfl (hb hby d8_36) rfl rfl ?_
    show Steps p.tables e below (T7.setTop (mkF m 37 #[.val (.ref o0_), .val (.ref o1_), .val (.ref o1_)] [(.ref o0_)])) _
    refine st9 _ ?_
    show Steps p.tables e below (T9.setTop (mkF m 40 #[.val (.ref o0_), .val (.ref o1_), .val (.ref o1_)] [(.ref o2_)])) _
    refine XS.aloadN X9.here hx rfl (hb hby d8_40) rfl rfl ?_
    show Steps p.tables e below (T9.setTop (mkF m 41 #[.val (.ref o0_), .val (.ref o1_), .val (.ref o1_)] [(.ref o1_), (.ref o2_)])) _
    refine st10 _ ?_
    show Steps p.tables e below (T10.setTop (mkF m 44 #[.val (.ref o0_), .val (.ref o1_), .val (.ref o1_)] [(.ref o3_), (.ref o2_)])) _
    refine st11 _ ?_
    show Steps p.tables e below (T11.setTop (mkF m 47 #[.val (.ref o0_), .val (.ref o1_), .val (.ref o1_)] [(.int (1 : Int32))])) _
    refine XS.ifNo X11.here hx rfl (hb hby d8_47) rfl ((if0 _ _).trans (feq (by decide : ¬ ((1 : Int32) = (0 : Int32)))).1) ?_
    show Steps p.tables e below (T11.setTop (mkF m 50 #[.val (.ref o0_), .val (.ref o1_), .val (.ref o1_)] [])) _
    refine XS.iconst X11.here hx rfl (hb hby d8_50) ?_
    show Steps p.tables e below (T11.setTop (mkF m 51 #[.val (.ref o0_), .val (.ref o1_), .val (.ref o1_)] [(.int (1 : Int32))])) _
    refine XS.goto X11.here hx rfl (pc0 := 51) (pc' := 55) rfl (hb hby d8_51) (by decide) (by decide) ?_
    exact kt
  obtain ⟨fs, hr, hrun, hended, hW, hsame⟩ := X11.leave (v := some (.int (1 : Int32))) (fun h => by rw [Bd.returns] at h; cases h)
  refine ⟨_, _, pre13 _ (retN X11 hx (t := .boolean) Bd.returns (by simp) (hb hby d8_55) hr), hrun, hended, _, _, rfl, ?_, ⟨_, rfl⟩, hW, hsame.mono (by decide) (by decide)⟩
  show Qequals41 Z o0_ o1_ o2_ o3_ ko2_ ko3_ x0_ h0 n0 _ T11.heap _
  rw [e11']
  exact ⟨rfl, N12, rfl⟩
theorem efof34 (m : MethodId) (o0_ : Addr) : entryFrame m #[(.ref o0_)] 5 = mkF m 0 #[.val (.ref o0_), .unset, .unset, .unset, .unset] [] := by first | (simp [entryFrame, mkF, argsToLocals, Value.category]; done) | rfl
def Qof34 (Z : State) (o0_ : Addr) (o1_ : Addr) (ko1_ : ClassId) (o2_ : Addr) (ko2_ : ClassId) (o3_ : Addr) (o4_ : Addr) (o5_ : Addr) (o6_ : Addr) (o7_ : Addr) (o8_ : Addr) (o9_ : Addr) (o10_ : Addr) (o11_ : Addr) (ko9_ : ClassId) (ko10_ : ClassId) (ko11_ : ClassId) (x0_ : Int32) (h0 : Heap) (n0 : Nat) (v : Option Value) (h : Heap) (L : List Loc) : Prop := v = some (.ref o5_) ∧ Fr n0 L ∧ Keep h0 h []
set_option maxRecDepth 65536 in
set_option maxHeartbeats 40000000 in
theorem rmof34 (l : Launch) (Z : State) (a0 : Array Value) (hw : ∀ d ∈ tables_1, d.before a0 Z = true) (ws : List Jvm.Cond) (o0_ : Addr) (o1_ : Addr) (ko1_ : ClassId) (o2_ : Addr) (ko2_ : ClassId) (o3_ : Addr) (o4_ : Addr) (o5_ : Addr) (o6_ : Addr) (o7_ : Addr) (o8_ : Addr) (o9_ : Addr) (o10_ : Addr) (o11_ : Addr) (ko9_ : ClassId) (ko10_ : ClassId) (ko11_ : ClassId) (x0_ : Int32) (h0 : Heap) (n0 : Nat) (O0 : Old Z n0 h0) (P0 : Exa Z h0 o0_ "java/lang/String") (P1 : Fld Z h0 o0_ "java/lang/String" "coder" "B" (.int (0 : Int32))) (P2 : Fld Z h0 o0_ "java/lang/String" "value" "[B" (.ref o1_)) (P3 : Arv Z h0 o1_ ko1_ .byte (6 : Int32) [(.int (102 : Int32)), (.int (97 : Int32)), (.int (105 : Int32)), (.int (108 : Int32)), (.int (101 : Int32)), (.int (100 : Int32))] (.int (0 : Int32))) (P4 : Exa Z h0 o1_ "[B") (P5 : Exa Z Z.heap o2_ "[Lcom/example/aeacus/aeacus/log/Outcome;") (P6 : Arv Z Z.heap o2_ ko2_ (.object "com/example/aeacus/aeacus/log/Outcome") (3 : Int32) [(.ref o3_), (.ref o4_), (.ref o5_)] .null) (P7 : Exa Z Z.heap o3_ "com/example/aeacus/aeacus/log/Outcome") (P8 : Fld Z Z.heap o3_ "com/example/aeacus/aeacus/log/Outcome" "label" "Ljava/lang/String;" (.ref o6_)) (P9 : Exa Z Z.heap o4_ "com/example/aeacus/aeacus/log/Outcome") (P10 : Fld Z Z.heap o4_ "com/example/aeacus/aeacus/log/Outcome" "label" "Ljava/lang/String;" (.ref o7_)) (P11 : Exa Z Z.heap o5_ "com/example/aeacus/aeacus/log/Outcome") (P12 : Fld Z Z.heap o5_ "com/example/aeacus/aeacus/log/Outcome" "label" "Ljava/lang/String;" (.ref o8_)) (P13 : Exa Z Z.heap o6_ "java/lang/String") (P14 : Fld Z Z.heap o6_ "java/lang/String" "value" "[B" (.ref o9_)) (P15 : Fld Z Z.heap o6_ "java/lang/String" "coder" "B" (.int (0 : Int32))) (P16 : Exa Z Z.heap o7_ "java/lang/String") (P17 : Fld Z Z.heap o7_ "java/lang/String" "value" "[B" (.ref o10_)) (P18 : Fld Z Z.heap o7_ "java/lang/String" "coder" "B" (.int (0 : Int32))) (P19 : Exa Z Z.heap o8_ "java/lang/String") (P20 : Fld Z Z.heap o8_ "java/lang/String" "value" "[B" (.ref o11_)) (P21 : Fld Z Z.heap o8_ "java/lang/String" "coder" "B" (.int (0 : Int32))) (P22 : Arv Z Z.heap o9_ ko9_ .byte (7 : Int32) [(.int (103 : Int32)), (.int (114 : Int32)), (.int (97 : Int32)), (.int (110 : Int32)), (.int (116 : Int32)), (.int (101 : Int32)), (.int (100 : Int32))] (.int (0 : Int32))) (P23 : Arv Z Z.heap o10_ ko10_ .byte (7 : Int32) [(.int (114 : Int32)), (.int (101 : Int32)), (.int (102 : Int32)), (.int (117 : Int32)), (.int (115 : Int32)), (.int (101 : Int32)), (.int (100 : Int32))] (.int (0 : Int32))) (P24 : Arv Z Z.heap o11_ ko11_ .byte (6 : Int32) [(.int (102 : Int32)), (.int (97 : Int32)), (.int (105 : Int32)), (.int (108 : Int32)), (.int (101 : Int32)), (.int (100 : Int32))] (.int (0 : Int32))) (P25 : Sta Z Z.heap "com/example/aeacus/aeacus/log/Outcome" "$VALUES" "[Lcom/example/aeacus/aeacus/log/Outcome;" (.ref o2_)) (P26 : ¬ (x0_ = (0 : Int32))) (P27 : Sta Z Z.heap "java/lang/String" "COMPACT_STRINGS" "Z" (.int x0_)) (P28 : n0 ≤ o0_) :
    MetFree l (⟨"com/example/aeacus/aeacus/log/Outcome", "of", "(Ljava/lang/String;)Lcom/example/aeacus/aeacus/log/Outcome;"⟩ : MethodName) (head1 (Jvm.Cond.code (⟨"com/example/aeacus/aeacus/log/Outcome", "of", "(Ljava/lang/String;)Lcom/example/aeacus/aeacus/log/Outcome;"⟩ : MethodName) prog_29_method_5_code 5 (some (.object "com/example/aeacus/aeacus/log/Outcome")) :: ws) ({ frames := 2, cells := 1, slots := 3, locals := 28 } : Room)) (fun a U => a = #[(.ref o0_)] ∧ Z.Warmed39 U.vm ∧ U.heap = h0) (fun _ _ _ _ _ => True) (fun _ U o U' => ∃ v L, o = .returned v ∧ Qof34 Z o0_ o1_ ko1_ o2_ ko2_ o3_ o4_ o5_ o6_ o7_ o8_ o9_ o10_ o11_ ko9_ ko10_ ko11_ x0_ h0 n0 v U'.heap L ∧ FrameEnd U o U' L ({ frames := 2, cells := 1, slots := 3, locals := 28 } : Room).cells ({ frames := 2, cells := 1, slots := 3, locals := 28 } : Room).slots) := by
  refine MetFree.of_bodySF (plainFor_of_name pn_2) hisR ?_
  intro p e s m args below meth c s₁ Bd hml0 hP hK
  obtain ⟨rfl, hZ, hh⟩ := hP
  have hx := Bd.exec
  have hby := Bd.bytes
  have hml : c.maxLocals = 5 := hml0
  have hown : s.vm.findClass "com/example/aeacus/aeacus/log/Outcome" = some m.cls := findClass_of_methodNamed Bd.named
  have hnm := (name_of_methodNamed Bd.named Bd.method).1
  have X0 : Stand p l e ({ frames := 2, cells := 1, slots := 3, locals := 28 } : Room) s m #[(.ref o0_)] below meth c s₁ [] 0 0 := Stand.of_body Bd
  have e0 : s₁.heap = h0 := by rw [← hh, Bd.state]; rfl
  have N0 := Fr.nil n0
  have pre0 : ∀ t, Steps p.tables e below (s₁.setTop (mkF m 0 #[.val (.ref o0_), .unset, .unset, .unset, .unset] [])) t → Steps p.tables e below (s₁.setTop (entryFrame m #[(.ref o0_)] 5)) t := fun t k => castTop (efof34 m o0_) k
  have K0 : Keep h0 h0 [] := Keep.refl _ _
  obtain ⟨_, _, ⟨T1, L1, k1, n1⟩, -, X1, ⟨Lc1, hQ1, l1, y1, z1⟩, st1⟩ := Jvm.LawKit.callS X0 hx (y := (⟨"com/example/aeacus/aeacus/log/Outcome", "values", "()[Lcom/example/aeacus/aeacus/log/Outcome;"⟩ : MethodName)) hown (mvT hZ (hw _ (List.mem_of_getElem? (i := 37) rfl))) (mvT hZ (hw _ (List.mem_of_getElem? (i := 38) rfl))) (mvT hZ (hw _ (List.mem_of_getElem? (i := 2) rfl))) (mvT hZ (hw _ (List.mem_of_getElem? (i := 39) rfl))) (by decide) (backOf (W := 0) (rmvalues9 l Z a0 hw [] o2_ ko2_ o3_ o4_ o5_ o6_ o7_ o8_ o9_ o10_ o11_ ko9_ ko10_ ko11_ h0 n0 O0 P5 P6 P7 P8 P9 P10 P11 P12 P13 P14 P15 P16 P17 P18 P19 P20 P21 P22 P23 P24 P25) hZ (hw _ (List.mem_of_getElem? (i := 39) rfl)) (hw _ (List.mem_of_getElem? (i := 2) rfl)) (by decide) (by decide)) (g := (mkF m 0 #[.val (.ref o0_), .unset, .unset, .unset, .unset] [])) rfl (by rw [hml]; rfl) (argsL := []) (rest := []) (lenOf pd_5 rfl) rfl (by show 2 * 0 + _ ≤ _; exact Nat.le_of_eq rfl) (hb hby d6_0) (fun _ _ => ⟨rfl, e0, (by decide : 0 + 1 ≤ _), (by decide : 0 + 3 ≤ _)⟩)
  dsimp only [Pt.U, Pt.locs, Pt.cells, Pt.slots] at X1 l1 y1 z1 st1 hQ1
  subst l1 y1 z1
  obtain ⟨h1, e1⟩ : ∃ z, T1.heap = z := ⟨_, rfl⟩
  rw [e1] at hQ1
  obtain ⟨nb2_1, rfl, N1q, K1, sznb2_1, g1_0, g1_1⟩ := hQ1
  have N2 := Fr.app N0 N1q
  have ge3 : n0 ≤ nb2_1 := Nat.le_trans (Nat.le_trans (Nat.le_of_eq O0.1.symm) O0.2.1) sznb2_1
  have sz4 : h0.size ≤ nb2_1 := Nat.le_trans K0.1 sznb2_1
  obtain ⟨c5, r5, q5, s5, z5, y5, G5⟩ := id g1_0
  obtain ⟨c6, r6, q6, s6, z6, y6, G6⟩ := id g1_0
  have hin6 : ¬ ((0 : Int32) < 0 ∨ c6.slots.size ≤ ((0 : Int32)).toNatClampNeg) := inb_of s6 ⟨by decide, by decide⟩
  have hat6 : c6.slots[((0 : Int32)).toNatClampNeg]? = some (.ref o3_) := Has.at y6 hin6 rfl
  have f7 : Old Z n0 h1 := O0.keep K1 all0
  have f8 : Fld Z h1 o3_ "com/example/aeacus/aeacus/log/Outcome" "label" "Ljava/lang/String;" (.ref o6_) := P8.ext f7.2
  obtain ⟨T9, X9, e9, st9⟩ := getF X1 hx hZ hown (host := "") (Or.inl (hw _ (List.mem_of_getElem? (i := 54) rfl))) Via.refl e1 f8 (g := (mkF m 21 #[.val (.ref o0_), .val (.ref nb2_1), .val (.int (3 : Int32)), .val (.int (0 : Int32)), .val (.ref o3_)] [(.ref o3_)])) rfl rfl (hb hby d6_21)
  have f11 : Exa Z h1 o0_ "java/lang/String" := P0.keep K1
  have f12 : Fld Z h1 o0_ "java/lang/String" "coder" "B" (.int (0 : Int32)) := P1.keep K1 nin0
  have f13 : Fld Z h1 o0_ "java/lang/String" "value" "[B" (.ref o1_) := P2.keep K1 nin0
  have f14 : Arv Z h1 o1_ ko1_ .byte (6 : Int32) [(.int (102 : Int32)), (.int (97 : Int32)), (.int (105 : Int32)), (.int (108 : Int32)), (.int (101 : Int32)), (.int (100 : Int32))] (.int (0 : Int32)) := P3.keep K1 nin0
  have f15 : Exa Z h1 o1_ "[B" := P4.keep K1
  have f16 : Exa Z h1 o6_ "java/lang/String" := P13.ext f7.2
  obtain ⟨cq10, kq10, q10a, q10b, q10c⟩ := isOf hZ e9 f16
  obtain ⟨_, _, ⟨T10, L10, k10, n10⟩, -, X10, ⟨Lc10, hQ10, l10, y10, z10⟩, st10⟩ := X9.virtualBack hx (y := (⟨"java/lang/String", "equals", "(Ljava/lang/Object;)Z"⟩ : MethodName)) (z := (⟨"java/lang/String", "equals", "(Ljava/lang/Object;)Z"⟩ : MethodName)) hown (mvT hZ (hw _ (List.mem_of_getElem? (i := 56) rfl))) (mvT hZ (hw _ (List.mem_of_getElem? (i := 57) rfl))) (notFace_of_selects (args := #[]) (mvT hZ (hw _ (List.mem_of_getElem? (i := 59) rfl)))) (mvT hZ (hw _ (List.mem_of_getElem? (i := 59) rfl))) (mvT hZ (hw _ (List.mem_of_getElem? (i := 58) rfl))) (by decide) (backOf (W := 0) (rmequals37 l Z a0 hw [] o6_ o0_ o9_ o1_ ko9_ ko1_ x0_ h1 n0 f7 P13 P14 P15 f11 f12 f13 P22 f14 f15 P28 P26 P27) hZ (hw _ (List.mem_of_getElem? (i := 60) rfl)) (hw _ (List.mem_of_getElem? (i := 7) rfl)) (by decide) (by decide)) q10a q10c (g := (mkF m 25 #[.val (.ref o0_), .val (.ref nb2_1), .val (.int (3 : Int32)), .val (.int (0 : Int32)), .val (.ref o3_)] [(.ref o0_), (.ref o6_)])) rfl (by rw [hml]; rfl) (Steps.refl _) (argsL := [(.ref o0_)]) (rest := []) (lenOf pd_7 rfl) rfl (by show 2 * 0 + _ ≤ _; exact Nat.le_of_eq rfl) (hb hby d6_25) (fun _ _ => ⟨rfl, e9, (by decide : 1 + 0 ≤ _), (by decide : 3 + 0 ≤ _)⟩)
  dsimp only [Pt.U, Pt.locs, Pt.cells, Pt.slots] at X10 l10 y10 z10 st10 hQ10
  subst l10 y10 z10
  obtain ⟨h10, e10⟩ : ∃ z, T10.heap = z := ⟨_, rfl⟩
  rw [e10] at hQ10
  obtain ⟨rfl, N10q, hh10⟩ := hQ10
  have N17 := Fr.app N2 N10q
  have e10' : T10.heap = h1 := e10.trans hh10
  obtain ⟨c18, r18, q18, s18, z18, y18, G18⟩ := id g1_0
  have hin18 : ¬ ((1 : Int32) < 0 ∨ c18.slots.size ≤ ((1 : Int32)).toNatClampNeg) := inb_of s18 ⟨by decide, by decide⟩
  have hat18 : c18.slots[((1 : Int32)).toNatClampNeg]? = some (.ref o4_) := Has.at y18 hin18 rfl
  have f19 : Fld Z h1 o4_ "com/example/aeacus/aeacus/log/Outcome" "label" "Ljava/lang/String;" (.ref o7_) := P10.ext f7.2
  obtain ⟨T20, X20, e20, st20⟩ := getF X10 hx hZ hown (host := "") (Or.inl (hw _ (List.mem_of_getElem? (i := 54) rfl))) Via.refl e10' f19 (g := (mkF m 21 #[.val (.ref o0_), .val (.ref nb2_1), .val (.int (3 : Int32)), .val (.int (1 : Int32)), .val (.ref o4_)] [(.ref o4_)])) rfl rfl (hb hby d6_21)
  have f22 : Exa Z h1 o7_ "java/lang/String" := P16.ext f7.2
  obtain ⟨cq21, kq21, q21a, q21b, q21c⟩ := isOf hZ e20 f22
  obtain ⟨_, _, ⟨T21, L21, k21, n21⟩, -, X21, ⟨Lc21, hQ21, l21, y21, z21⟩, st21⟩ := X20.virtualBack hx (y := (⟨"java/lang/String", "equals", "(Ljava/lang/Object;)Z"⟩ : MethodName)) (z := (⟨"java/lang/String", "equals", "(Ljava/lang/Object;)Z"⟩ : MethodName)) hown (mvT hZ (hw _ (List.mem_of_getElem? (i := 56) rfl))) (mvT hZ (hw _ (List.mem_of_getElem? (i := 57) rfl))) (notFace_of_selects (args := #[]) (mvT hZ (hw _ (List.mem_of_getElem? (i := 59) rfl)))) (mvT hZ (hw _ (List.mem_of_getElem? (i := 59) rfl))) (mvT hZ (hw _ (List.mem_of_getElem? (i := 58) rfl))) (by decide) (backOf (W := 0) (rmequals39 l Z a0 hw [] o7_ o0_ o10_ o1_ ko10_ ko1_ x0_ h1 n0 f7 P16 P17 P18 f11 f12 f13 P23 f14 f15 P28 P26 P27) hZ (hw _ (List.mem_of_getElem? (i := 60) rfl)) (hw _ (List.mem_of_getElem? (i := 7) rfl)) (by decide) (by decide)) q21a q21c (g := (mkF m 25 #[.val (.ref o0_), .val (.ref nb2_1), .val (.int (3 : Int32)), .val (.int (1 : Int32)), .val (.ref o4_)] [(.ref o0_), (.ref o7_)])) rfl (by rw [hml]; rfl) (Steps.refl _) (argsL := [(.ref o0_)]) (rest := []) (lenOf pd_7 rfl) rfl (by show 2 * 0 + _ ≤ _; exact Nat.le_of_eq rfl) (hb hby d6_25) (fun _ _ => ⟨rfl, e20, (by decide : 1 + 0 ≤ _), (by decide : 3 + 0 ≤ _)⟩)
  dsimp only [Pt.U, Pt.locs, Pt.cells, Pt.slots] at X21 l21 y21 z21 st21 hQ21
  subst l21 y21 z21
  obtain ⟨h21, e21⟩ : ∃ z, T21.heap = z := ⟨_, rfl⟩
  rw [e21] at hQ21
  obtain ⟨rfl, N21q, hh21⟩ := hQ21
  have N23 := Fr.app N17 N21q
  have e21' : T21.heap = h1 := e21.trans hh21
  obtain ⟨c24, r24, q24, s24, z24, y24, G24⟩ := id g1_0
  have hin24 : ¬ ((2 : Int32) < 0 ∨ c24.slots.size ≤ ((2 : Int32)).toNatClampNeg) := inb_of s24 ⟨by decide, by decide⟩
  have hat24 : c24.slots[((2 : Int32)).toNatClampNeg]? = some (.ref o5_) := Has.at y24 hin24 rfl
  have f25 : Fld Z h1 o5_ "com/example/aeacus/aeacus/log/Outcome" "label" "Ljava/lang/String;" (.ref o8_) := P12.ext f7.2
  obtain ⟨T26, X26, e26, st26⟩ := getF X21 hx hZ hown (host := "") (Or.inl (hw _ (List.mem_of_getElem? (i := 54) rfl))) Via.refl e21' f25 (g := (mkF m 21 #[.val (.ref o0_), .val (.ref nb2_1), .val (.int (3 : Int32)), .val (.int (2 : Int32)), .val (.ref o5_)] [(.ref o5_)])) rfl rfl (hb hby d6_21)
  have f28 : Exa Z h1 o8_ "java/lang/String" := P19.ext f7.2
  obtain ⟨cq27, kq27, q27a, q27b, q27c⟩ := isOf hZ e26 f28
  obtain ⟨_, _, ⟨T27, L27, k27, n27⟩, -, X27, ⟨Lc27, hQ27, l27, y27, z27⟩, st27⟩ := X26.virtualBack hx (y := (⟨"java/lang/String", "equals", "(Ljava/lang/Object;)Z"⟩ : MethodName)) (z := (⟨"java/lang/String", "equals", "(Ljava/lang/Object;)Z"⟩ : MethodName)) hown (mvT hZ (hw _ (List.mem_of_getElem? (i := 56) rfl))) (mvT hZ (hw _ (List.mem_of_getElem? (i := 57) rfl))) (notFace_of_selects (args := #[]) (mvT hZ (hw _ (List.mem_of_getElem? (i := 59) rfl)))) (mvT hZ (hw _ (List.mem_of_getElem? (i := 59) rfl))) (mvT hZ (hw _ (List.mem_of_getElem? (i := 58) rfl))) (by decide) (backOf (W := 0) (rmequals41 l Z a0 hw [] o8_ o0_ o11_ o1_ ko11_ ko1_ x0_ h1 n0 f7 P19 P20 P21 f11 f12 f13 P24 f14 f15 P28 P26 P27) hZ (hw _ (List.mem_of_getElem? (i := 60) rfl)) (hw _ (List.mem_of_getElem? (i := 7) rfl)) (by decide) (by decide)) q27a q27c (g := (mkF m 25 #[.val (.ref o0_), .val (.ref nb2_1), .val (.int (3 : Int32)), .val (.int (2 : Int32)), .val (.ref o5_)] [(.ref o0_), (.ref o8_)])) rfl (by rw [hml]; rfl) (Steps.refl _) (argsL := [(.ref o0_)]) (rest := []) (lenOf pd_7 rfl) rfl (by show 2 * 0 + _ ≤ _; exact Nat.le_of_eq rfl) (hb hby d6_25) (fun _ _ => ⟨rfl, e26, (by decide : 1 + 0 ≤ _), (by decide : 3 + 0 ≤ _)⟩)
  dsimp only [Pt.U, Pt.locs, Pt.cells, Pt.slots] at X27 l27 y27 z27 st27 hQ27
  subst l27 y27 z27
  obtain ⟨h27, e27⟩ : ∃ z, T27.heap = z := ⟨_, rfl⟩
  rw [e27] at hQ27
  obtain ⟨rfl, N27q, hh27⟩ := hQ27
  have N29 := Fr.app N23 N27q
  have e27' : T27.heap = h1 := e27.trans hh27
  have pre30 : ∀ t, Steps p.tables e below (T27.setTop (mkF m 33 #[.val (.ref o0_), .val (.ref nb2_1), .val (.int (3 : Int32)), .val (.int (2 : Int32)), .val (.ref o5_)] [(.ref o5_)])) t → Steps p.tables e below (s₁.setTop (entryFrame m #[(.ref o0_)] 5)) t := by
    intro t kt
    refine pre0 t ?_
    show Steps p.tables e below (s₁.setTop (mkF m 0 #[.val (.ref o0_), .unset, .unset, .unset, .unset] [])) _
    refine st1 _ ?_
    show Steps p.tables e below (T1.setTop (mkF m 3 #[.val (.ref o0_), .unset, .unset, .unset, .unset] [(.ref nb2_1)])) _
    refine XS.astoreN X1.here hx rfl (hb hby d6_3) rfl rfl (l' := #[.val (.ref o0_), .val (.ref nb2_1), .unset, .unset, .unset]) rfl ?_
    show Steps p.tables e below (T1.setTop (mkF m 4 #[.val (.ref o0_), .val (.ref nb2_1), .unset, .unset, .unset] [])) _
    refine XS.aloadN X1.here hx rfl (hb hby d6_4) rfl rfl ?_
    show Steps p.tables e below (T1.setTop (mkF m 5 #[.val (.ref o0_), .val (.ref nb2_1), .unset, .unset, .unset] [(.ref nb2_1)])) _
    refine X1.arraylength hx (by rw [e1]; exact r5.1) (State.isArrayOf_alike hZ.alike r5.2.1) (g := (mkF m 5 #[.val (.ref o0_), .val (.ref nb2_1), .unset, .unset, .unset] [(.ref nb2_1)])) rfl rfl (hb hby d6_5) _ ?_
    rw [len_of s5 z5]
    show Steps p.tables e below (T1.setTop (mkF m 6 #[.val (.ref o0_), .val (.ref nb2_1), .unset, .unset, .unset] [(.int (3 : Int32))])) _
    refine XS.istoreN X1.here hx rfl (hb hby d6_6) rfl (l' := #[.val (.ref o0_), .val (.ref nb2_1), .val (.int (3 : Int32)), .unset, .unset]) rfl ?_
    show Steps p.tables e below (T1.setTop (mkF m 7 #[.val (.ref o0_), .val (.ref nb2_1), .val (.int (3 : Int32)), .unset, .unset] [])) _
    refine XS.iconst X1.here hx rfl (hb hby d6_7) ?_
    show Steps p.tables e below (T1.setTop (mkF m 8 #[.val (.ref o0_), .val (.ref nb2_1), .val (.int (3 : Int32)), .unset, .unset] [(.int (0 : Int32))])) _
    refine XS.istoreN X1.here hx rfl (hb hby d6_8) rfl (l' := #[.val (.ref o0_), .val (.ref nb2_1), .val (.int (3 : Int32)), .val (.int (0 : Int32)), .unset]) rfl ?_
    show Steps p.tables e below (T1.setTop (mkF m 9 #[.val (.ref o0_), .val (.ref nb2_1), .val (.int (3 : Int32)), .val (.int (0 : Int32)), .unset] [])) _
    refine XS.iloadN X1.here hx rfl (hb hby d6_9) rfl ?_
    show Steps p.tables e below (T1.setTop (mkF m 10 #[.val (.ref o0_), .val (.ref nb2_1), .val (.int (3 : Int32)), .val (.int (0 : Int32)), .unset] [(.int (0 : Int32))])) _
    refine XS.iloadN X1.here hx rfl (hb hby d6_10) rfl ?_
    show Steps p.tables e below (T1.setTop (mkF m 11 #[.val (.ref o0_), .val (.ref nb2_1), .val (.int (3 : Int32)), .val (.int (0 : Int32)), .unset] [(.int (3 : Int32)), (.int (0 : Int32))])) _
    refine XS.icmpNo X1.here hx rfl (hb hby d6_11) rfl (tlt (by decide : (0 : Int32) < (3 : Int32))).2.1 ?_
    show Steps p.tables e below (T1.setTop (mkF m 14 #[.val (.ref o0_), .val (.ref nb2_1), .val (.int (3 : Int32)), .val (.int (0 : Int32)), .unset] [])) _
    refine XS.aloadN X1.here hx rfl (hb hby d6_14) rfl rfl ?_
    show Steps p.tables e below (T1.setTop (mkF m 15 #[.val (.ref o0_), .val (.ref nb2_1), .val (.int (3 : Int32)), .val (.int (0 : Int32)), .unset] [(.ref nb2_1)])) _
    refine XS.iloadN X1.here hx rfl (hb hby d6_15) rfl ?_
    show Steps p.tables e below (T1.setTop (mkF m 16 #[.val (.ref o0_), .val (.ref nb2_1), .val (.int (3 : Int32)), .val (.int (0 : Int32)), .unset] [(.int (0 : Int32)), (.ref nb2_1)])) _
    refine X1.aaload hx (j := (0 : Int32)) (v := (.ref o3_)) (by rw [e1]; exact r6.1) (State.isArrayOf_alike hZ.alike r6.2.1) rfl r6.2.2 hin6 hat6 (g := (mkF m 16 #[.val (.ref o0_), .val (.ref nb2_1), .val (.int (3 : Int32)), .val (.int (0 : Int32)), .unset] [(.int (0 : Int32)), (.ref nb2_1)])) rfl rfl (hb hby d6_16) _ ?_
    show Steps p.tables e below (T1.setTop (mkF m 17 #[.val (.ref o0_), .val (.ref nb2_1), .val (.int (3 : Int32)), .val (.int (0 : Int32)), .unset] [(.ref o3_)])) _
    refine XS.astore X1.here hx rfl (hb hby d6_17) rfl rfl (l' := #[.val (.ref o0_), .val (.ref nb2_1), .val (.int (3 : Int32)), .val (.int (0 : Int32)), .val (.ref o3_)]) rfl ?_
    show Steps p.tables e below (T1.setTop (mkF m 19 #[.val (.ref o0_), .val (.ref nb2_1), .val (.int (3 : Int32)), .val (.int (0 : Int32)), .val (.ref o3_)] [])) _
    refine XS.aload X1.here hx rfl (hb hby d6_19) rfl rfl ?_
    show Steps p.tables e below (T1.setTop (mkF m 21 #[.val (.ref o0_), .val (.ref nb2_1), .val (.int (3 : Int32)), .val (.int (0 : Int32)), .val (.ref o3_)] [(.ref o3_)])) _
    refine st9 _ ?_
    show Steps p.tables e below (T9.setTop (mkF m 24 #[.val (.ref o0_), .val (.ref nb2_1), .val (.int (3 : Int32)), .val (.int (0 : Int32)), .val (.ref o3_)] [(.ref o6_)])) _
    refine XS.aloadN X9.here hx rfl (hb hby d6_24) rfl rfl ?_
    show Steps p.tables e below (T9.setTop (mkF m 25 #[.val (.ref o0_), .val (.ref nb2_1), .val (.int (3 : Int32)), .val (.int (0 : Int32)), .val (.ref o3_)] [(.ref o0_), (.ref o6_)])) _
    refine st10.trans ?_
    show Steps p.tables e below (T10.setTop (mkF m 28 #[.val (.ref o0_), .val (.ref nb2_1), .val (.int (3 : Int32)), .val (.int (0 : Int32)), .val (.ref o3_)] [(.int (0 : Int32))])) _
    refine XS.ifYes X10.here hx rfl (pc0 := 28) (pc' := 34) rfl (hb hby d6_28) rfl ((if0 _ _).trans (teq (by decide : (0 : Int32) = (0 : Int32))).1) (by decide) (by decide) ?_
    show Steps p.tables e below (T10.setTop (mkF m 34 #[.val (.ref o0_), .val (.ref nb2_1), .val (.int (3 : Int32)), .val (.int (0 : Int32)), .val (.ref o3_)] [])) _
    refine XS.iinc X10.here hx rfl (hb hby d6_34) rfl (l' := #[.val (.ref o0_), .val (.ref nb2_1), .val (.int (3 : Int32)), .val (.int (1 : Int32)), .val (.ref o3_)]) rfl ?_
    show Steps p.tables e below (T10.setTop (mkF m 37 #[.val (.ref o0_), .val (.ref nb2_1), .val (.int (3 : Int32)), .val (.int (1 : Int32)), .val (.ref o3_)] [])) _
    refine XS.goto X10.here hx rfl (pc0 := 37) (pc' := 9) rfl (hb hby d6_37) (by decide) (by decide) ?_
    show Steps p.tables e below (T10.setTop (mkF m 9 #[.val (.ref o0_), .val (.ref nb2_1), .val (.int (3 : Int32)), .val (.int (1 : Int32)), .val (.ref o3_)] [])) _
    refine XS.iloadN X10.here hx rfl (hb hby d6_9) rfl ?_
    show Steps p.tables e below (T10.setTop (mkF m 10 #[.val (.ref o0_), .val (.ref nb2_1), .val (.int (3 : Int32)), .val (.int (1 : Int32)), .val (.ref o3_)] [(.int (1 : Int32))])) _
    refine XS.iloadN X10.here hx rfl (hb hby d6_10) rfl ?_
    show Steps p.tables e below (T10.setTop (mkF m 11 #[.val (.ref o0_), .val (.ref nb2_1), .val (.int (3 : Int32)), .val (.int (1 : Int32)), .val (.ref o3_)] [(.int (3 : Int32)), (.int (1 : Int32))])) _
    refine XS.icmpNo X10.here hx rfl (hb hby d6_11) rfl (tlt (by decide : (1 : Int32) < (3 : Int32))).2.1 ?_
    show Steps p.tables e below (T10.setTop (mkF m 14 #[.val (.ref o0_), .val (.ref nb2_1), .val (.int (3 : Int32)), .val (.int (1 : Int32)), .val (.ref o3_)] [])) _
    refine XS.aloadN X10.here hx rfl (hb hby d6_14) rfl rfl ?_
    show Steps p.tables e below (T10.setTop (mkF m 15 #[.val (.ref o0_), .val (.ref nb2_1), .val (.int (3 : Int32)), .val (.int (1 : Int32)), .val (.ref o3_)] [(.ref nb2_1)])) _
    refine XS.iloadN X10.here hx rfl (hb hby d6_15) rfl ?_
    show Steps p.tables e below (T10.setTop (mkF m 16 #[.val (.ref o0_), .val (.ref nb2_1), .val (.int (3 : Int32)), .val (.int (1 : Int32)), .val (.ref o3_)] [(.int (1 : Int32)), (.ref nb2_1)])) _
    refine X10.aaload hx (j := (1 : Int32)) (v := (.ref o4_)) (by rw [e10']; exact r18.1) (State.isArrayOf_alike hZ.alike r18.2.1) rfl r18.2.2 hin18 hat18 (g := (mkF m 16 #[.val (.ref o0_), .val (.ref nb2_1), .val (.int (3 : Int32)), .val (.int (1 : Int32)), .val (.ref o3_)] [(.int (1 : Int32)), (.ref nb2_1)])) rfl rfl (hb hby d6_16) _ ?_
    show Steps p.tables e below (T10.setTop (mkF m 17 #[.val (.ref o0_), .val (.ref nb2_1), .val (.int (3 : Int32)), .val (.int (1 : Int32)), .val (.ref o3_)] [(.ref o4_)])) _
    refine XS.astore X10.here hx rfl (hb hby d6_17) rfl rfl (l' := #[.val (.ref o0_), .val (.ref nb2_1), .val (.int (3 : Int32)), .val (.int (1 : Int32)), .val (.ref o4_)]) rfl ?_
    show Steps p.tables e below (T10.setTop (mkF m 19 #[.val (.ref o0_), .val (.ref nb2_1), .val (.int (3 : Int32)), .val (.int (1 : Int32)), .val (.ref o4_)] [])) _
    refine XS.aload X10.here hx rfl (hb hby d6_19) rfl rfl ?_
    show Steps p.tables e below (T10.setTop (mkF m 21 #[.val (.ref o0_), .val (.ref nb2_1), .val (.int (3 : Int32)), .val (.int (1 : Int32)), .val (.ref o4_)] [(.ref o4_)])) _
    refine st20 _ ?_
    show Steps p.tables e below (T20.setTop (mkF m 24 #[.val (.ref o0_), .val (.ref nb2_1), .val (.int (3 : Int32)), .val (.int (1 : Int32)), .val (.ref o4_)] [(.ref o7_)])) _
    refine XS.aloadN X20.here hx rfl (hb hby d6_24) rfl rfl ?_
    show Steps p.tables e below (T20.setTop (mkF m 25 #[.val (.ref o0_), .val (.ref nb2_1), .val (.int (3 : Int32)), .val (.int (1 : Int32)), .val (.ref o4_)] [(.ref o0_), (.ref o7_)])) _
    refine st21.trans ?_
    show Steps p.tables e below (T21.setTop (mkF m 28 #[.val (.ref o0_), .val (.ref nb2_1), .val (.int (3 : Int32)), .val (.int (1 : Int32)), .val (.ref o4_)] [(.int (0 : Int32))])) _
    refine XS.ifYes X21.here hx rfl (pc0 := 28) (pc' := 34) rfl (hb hby d6_28) rfl ((if0 _ _).trans (teq (by decide : (0 : Int32) = (0 : Int32))).1) (by decide) (by decide) ?_
    show Steps p.tables e below (T21.setTop (mkF m 34 #[.val (.ref o0_), .val (.ref nb2_1), .val (.int (3 : Int32)), .val (.int (1 : Int32)), .val (.ref o4_)] [])) _
    refine XS.iinc X21.here hx rfl (hb hby d6_34) rfl (l' := #[.val (.ref o0_), .val (.ref nb2_1), .val (.int (3 : Int32)), .val (.int (2 : Int32)), .val (.ref o4_)]) rfl ?_
    show Steps p.tables e below (T21.setTop (mkF m 37 #[.val (.ref o0_), .val (.ref nb2_1), .val (.int (3 : Int32)), .val (.int (2 : Int32)), .val (.ref o4_)] [])) _
    refine XS.goto X21.here hx rfl (pc0 := 37) (pc' := 9) rfl (hb hby d6_37) (by decide) (by decide) ?_
    show Steps p.tables e below (T21.setTop (mkF m 9 #[.val (.ref o0_), .val (.ref nb2_1), .val (.int (3 : Int32)), .val (.int (2 : Int32)), .val (.ref o4_)] [])) _
    refine XS.iloadN X21.here hx rfl (hb hby d6_9) rfl ?_
    show Steps p.tables e below (T21.setTop (mkF m 10 #[.val (.ref o0_), .val (.ref nb2_1), .val (.int (3 : Int32)), .val (.int (2 : Int32)), .val (.ref o4_)] [(.int (2 : Int32))])) _
    refine XS.iloadN X21.here hx rfl (hb hby d6_10) rfl ?_
    show Steps p.tables e below (T21.setTop (mkF m 11 #[.val (.ref o0_), .val (.ref nb2_1), .val (.int (3 : Int32)), .val (.int (2 : Int32)), .val (.ref o4_)] [(.int (3 : Int32)), (.int (2 : Int32))])) _
    refine XS.icmpNo X21.here hx rfl (hb hby d6_11) rfl (tlt (by decide : (2 : Int32) < (3 : Int32))).2.1 ?_
    show Steps p.tables e below (T21.setTop (mkF m 14 #[.val (.ref o0_), .val (.ref nb2_1), .val (.int (3 : Int32)), .val (.int (2 : Int32)), .val (.ref o4_)] [])) _
    refine XS.aloadN X21.here hx rfl (hb hby d6_14) rfl rfl ?_
    show Steps p.tables e below (T21.setTop (mkF m 15 #[.val (.ref o0_), .val (.ref nb2_1), .val (.int (3 : Int32)), .val (.int (2 : Int32)), .val (.ref o4_)] [(.ref nb2_1)])) _
    refine XS.iloadN X21.here hx rfl (hb hby d6_15) rfl ?_
    show Steps p.tables e below (T21.setTop (mkF m 16 #[.val (.ref o0_), .val (.ref nb2_1), .val (.int (3 : Int32)), .val (.int (2 : Int32)), .val (.ref o4_)] [(.int (2 : Int32)), (.ref nb2_1)])) _
    refine X21.aaload hx (j := (2 : Int32)) (v := (.ref o5_)) (by rw [e21']; exact r24.1) (State.isArrayOf_alike hZ.alike r24.2.1) rfl r24.2.2 hin24 hat24 (g := (mkF m 16 #[.val (.ref o0_), .val (.ref nb2_1), .val (.int (3 : Int32)), .val (.int (2 : Int32)), .val (.ref o4_)] [(.int (2 : Int32)), (.ref nb2_1)])) rfl rfl (hb hby d6_16) _ ?_
    show Steps p.tables e below (T21.setTop (mkF m 17 #[.val (.ref o0_), .val (.ref nb2_1), .val (.int (3 : Int32)), .val (.int (2 : Int32)), .val (.ref o4_)] [(.ref o5_)])) _
    refine XS.astore X21.here hx rfl (hb hby d6_17) rfl rfl (l' := #[.val (.ref o0_), .val (.ref nb2_1), .val (.int (3 : Int32)), .val (.int (2 : Int32)), .val (.ref o5_)]) rfl ?_
    show Steps p.tables e below (T21.setTop (mkF m 19 #[.val (.ref o0_), .val (.ref nb2_1), .val (.int (3 : Int32)), .val (.int (2 : Int32)), .val (.ref o5_)] [])) _
    refine XS.aload X21.here hx rfl (hb hby d6_19) rfl rfl ?_
    show Steps p.tables e below (T21.setTop (mkF m 21 #[.val (.ref o0_), .val (.ref nb2_1), .val (.int (3 : Int32)), .val (.int (2 : Int32)), .val (.ref o5_)] [(.ref o5_)])) _
    refine st26 _ ?_
    show Steps p.tables e below (T26.setTop (mkF m 24 #[.val (.ref o0_), .val (.ref nb2_1), .val (.int (3 : Int32)), .val (.int (2 : Int32)), .val (.ref o5_)] [(.ref o8_)])) _
    refine XS.aloadN X26.here hx rfl (hb hby d6_24) rfl rfl ?_
    show Steps p.tables e below (T26.setTop (mkF m 25 #[.val (.ref o0_), .val (.ref nb2_1), .val (.int (3 : Int32)), .val (.int (2 : Int32)), .val (.ref o5_)] [(.ref o0_), (.ref o8_)])) _
    refine st27.trans ?_
    show Steps p.tables e below (T27.setTop (mkF m 28 #[.val (.ref o0_), .val (.ref nb2_1), .val (.int (3 : Int32)), .val (.int (2 : Int32)), .val (.ref o5_)] [(.int (1 : Int32))])) _
    refine XS.ifNo X27.here hx rfl (hb hby d6_28) rfl ((if0 _ _).trans (feq (by decide : ¬ ((1 : Int32) = (0 : Int32)))).1) ?_
    show Steps p.tables e below (T27.setTop (mkF m 31 #[.val (.ref o0_), .val (.ref nb2_1), .val (.int (3 : Int32)), .val (.int (2 : Int32)), .val (.ref o5_)] [])) _
    refine XS.aload X27.here hx rfl (hb hby d6_31) rfl rfl ?_
    exact kt
  have f32 : Keep h0 h1 [] := K0.trans K1 all0
  obtain ⟨fs, hr, hrun, hended, hW, hsame⟩ := X27.leave (v := some (.ref o5_)) (fun h => by rw [Bd.returns] at h; cases h)
  refine ⟨_, _, pre30 _ (retOut X27 hx Bd.returns rfl (Or.inr (Or.inr (Or.inr (Or.inr ⟨rfl, rfl, rfl⟩)))) (hb hby d6_33) hr), hrun, hended, _, _, rfl, ?_, ⟨_, rfl⟩, hW, hsame.mono (by decide) (by decide)⟩
  show Qof34 Z o0_ o1_ ko1_ o2_ ko2_ o3_ o4_ o5_ o6_ o7_ o8_ o9_ o10_ o11_ ko9_ ko10_ ko11_ x0_ h0 n0 _ T27.heap _
  rw [e27']
  exact ⟨rfl, N29, f32⟩
theorem eflabel43 (m : MethodId) (o0_ : Addr) : entryFrame m #[(.ref o0_)] 1 = mkF m 0 #[.val (.ref o0_)] [] := by first | (simp [entryFrame, mkF, argsToLocals, Value.category]; done) | rfl
def Qlabel43 (Z : State) (o0_ : Addr) (o1_ : Addr) (o2_ : Addr) (ko2_ : ClassId) (h0 : Heap) (n0 : Nat) (v : Option Value) (h : Heap) (L : List Loc) : Prop := v = some (.ref o1_) ∧ Fr n0 L ∧ h = h0
set_option maxRecDepth 65536 in
set_option maxHeartbeats 40000000 in
theorem rmlabel43 (l : Launch) (Z : State) (a0 : Array Value) (hw : ∀ d ∈ tables_1, d.before a0 Z = true) (ws : List Jvm.Cond) (o0_ : Addr) (o1_ : Addr) (o2_ : Addr) (ko2_ : ClassId) (h0 : Heap) (n0 : Nat) (O0 : Old Z n0 h0) (P0 : Exa Z Z.heap o0_ "com/example/aeacus/aeacus/log/Outcome") (P1 : Fld Z Z.heap o0_ "com/example/aeacus/aeacus/log/Outcome" "label" "Ljava/lang/String;" (.ref o1_)) (P2 : Exa Z Z.heap o1_ "java/lang/String") (P3 : Fld Z Z.heap o1_ "java/lang/String" "value" "[B" (.ref o2_)) (P4 : Fld Z Z.heap o1_ "java/lang/String" "coder" "B" (.int (0 : Int32))) (P5 : Arv Z Z.heap o2_ ko2_ .byte (6 : Int32) [(.int (102 : Int32)), (.int (97 : Int32)), (.int (105 : Int32)), (.int (108 : Int32)), (.int (101 : Int32)), (.int (100 : Int32))] (.int (0 : Int32))) :
    MetFree l (⟨"com/example/aeacus/aeacus/log/Outcome", "label", "()Ljava/lang/String;"⟩ : MethodName) (head1 (Jvm.Cond.code (⟨"com/example/aeacus/aeacus/log/Outcome", "label", "()Ljava/lang/String;"⟩ : MethodName) prog_29_method_4_code 1 (some (.object "java/lang/String")) :: ws) ({ frames := 0, cells := 0, slots := 0, locals := 0 } : Room)) (fun a U => a = #[(.ref o0_)] ∧ Z.Warmed39 U.vm ∧ U.heap = h0) (fun _ _ _ _ _ => True) (fun _ U o U' => ∃ v L, o = .returned v ∧ Qlabel43 Z o0_ o1_ o2_ ko2_ h0 n0 v U'.heap L ∧ FrameEnd U o U' L ({ frames := 0, cells := 0, slots := 0, locals := 0 } : Room).cells ({ frames := 0, cells := 0, slots := 0, locals := 0 } : Room).slots) := by
  refine MetFree.of_bodySF (plainFor_of_name pn_2) hisR ?_
  intro p e s m args below meth c s₁ Bd hml0 hP hK
  obtain ⟨rfl, hZ, hh⟩ := hP
  have hx := Bd.exec
  have hby := Bd.bytes
  have hml : c.maxLocals = 1 := hml0
  have hown : s.vm.findClass "com/example/aeacus/aeacus/log/Outcome" = some m.cls := findClass_of_methodNamed Bd.named
  have hnm := (name_of_methodNamed Bd.named Bd.method).1
  have X0 : Stand p l e ({ frames := 0, cells := 0, slots := 0, locals := 0 } : Room) s m #[(.ref o0_)] below meth c s₁ [] 0 0 := Stand.of_body Bd
  have e0 : s₁.heap = h0 := by rw [← hh, Bd.state]; rfl
  have N0 := Fr.nil n0
  have pre0 : ∀ t, Steps p.tables e below (s₁.setTop (mkF m 0 #[.val (.ref o0_)] [])) t → Steps p.tables e below (s₁.setTop (entryFrame m #[(.ref o0_)] 1)) t := fun t k => castTop (eflabel43 m o0_) k
  have K0 : Keep h0 h0 [] := Keep.refl _ _
  have f1 : Fld Z h0 o0_ "com/example/aeacus/aeacus/log/Outcome" "label" "Ljava/lang/String;" (.ref o1_) := P1.ext O0.2
  obtain ⟨T2, X2, e2, st2⟩ := getF X0 hx hZ hown (host := "") (Or.inl (hw _ (List.mem_of_getElem? (i := 54) rfl))) Via.refl e0 f1 (g := (mkF m 1 #[.val (.ref o0_)] [(.ref o0_)])) rfl rfl (hb hby d10_1)
  have pre3 : ∀ t, Steps p.tables e below (T2.setTop (mkF m 4 #[.val (.ref o0_)] [(.ref o1_)])) t → Steps p.tables e below (s₁.setTop (entryFrame m #[(.ref o0_)] 1)) t := by
    intro t kt
    refine pre0 t ?_
    show Steps p.tables e below (s₁.setTop (mkF m 0 #[.val (.ref o0_)] [])) _
    refine XS.aloadN X0.here hx rfl (hb hby d10_0) rfl rfl ?_
    show Steps p.tables e below (s₁.setTop (mkF m 1 #[.val (.ref o0_)] [(.ref o0_)])) _
    refine st2 _ ?_
    exact kt
  obtain ⟨fs, hr, hrun, hended, hW, hsame⟩ := X2.leave (v := some (.ref o1_)) (fun h => by rw [Bd.returns] at h; cases h)
  refine ⟨_, _, pre3 _ (retOut X2 hx Bd.returns rfl (Or.inr (Or.inr (Or.inr (Or.inr ⟨rfl, rfl, rfl⟩)))) (hb hby d10_4) hr), hrun, hended, _, _, rfl, ?_, ⟨_, rfl⟩, hW, hsame.mono (by decide) (by decide)⟩
  show Qlabel43 Z o0_ o1_ o2_ ko2_ h0 n0 _ T2.heap _
  rw [e2]
  exact ⟨rfl, N0, rfl⟩
theorem pn_4 : plainName "com/example/aeacus/aeacus/log/OutcomeOfPinLaw" = true := by first | (simp [plainName, overriddenIn]; done) | decide +kernel
theorem efLaw (m : MethodId) (p0_ : Int32) : entryFrame m #[(.int p0_)] maxLocals = mkF m 0 #[.val (.int p0_), .unset, .unset, .unset, .unset, .unset] [] := by first | (simp [entryFrame, mkF, argsToLocals, Value.category, maxLocals]; done) | rfl
def QLaw (Z : State) (p0_ : Int32) (v_value_v_label_w_FAILED : Addr) (v_value_v_label_w_REFUSED : Addr) (v_value_v_label_w_GRANTED : Addr) (v_label_w_FAILED : Addr) (v_label_w_REFUSED : Addr) (v_label_w_GRANTED : Addr) (w_COMPACT_STRINGS : Int32) (w_FAILED : Addr) (w_REFUSED : Addr) (w__VALUES : Addr) (w_GRANTED : Addr) (k_w__VALUES : ClassId) (k_v_value_v_label_w_GRANTED : ClassId) (k_v_value_v_label_w_REFUSED : ClassId) (k_v_value_v_label_w_FAILED : ClassId) (h0 : Heap) (n0 : Nat) (v : Option Value) (h : Heap) (L : List Loc) : Prop := v = some (.int (1 : Int32)) ∧ Fr n0 L
set_option maxRecDepth 65536 in
set_option maxHeartbeats 40000000 in
theorem rmLaw (l : Launch) (Z : State) (a0 : Array Value) (hw : ∀ d ∈ tables_1, d.before a0 Z = true) (ws : List Jvm.Cond) (p0_ : Int32) (v_value_v_label_w_FAILED : Addr) (v_value_v_label_w_REFUSED : Addr) (v_value_v_label_w_GRANTED : Addr) (v_label_w_FAILED : Addr) (v_label_w_REFUSED : Addr) (v_label_w_GRANTED : Addr) (w_COMPACT_STRINGS : Int32) (w_FAILED : Addr) (w_REFUSED : Addr) (w__VALUES : Addr) (w_GRANTED : Addr) (k_w__VALUES : ClassId) (k_v_value_v_label_w_GRANTED : ClassId) (k_v_value_v_label_w_REFUSED : ClassId) (k_v_value_v_label_w_FAILED : ClassId) (h0 : Heap) (n0 : Nat) (O0 : Old Z n0 h0) (hz_0 : ¬ (w_COMPACT_STRINGS = (0 : Int32))) (P1 : Sta Z Z.heap "com/example/aeacus/aeacus/log/Outcome" "GRANTED" "Lcom/example/aeacus/aeacus/log/Outcome;" (.ref w_GRANTED)) (P2 : Exa Z Z.heap w_GRANTED "com/example/aeacus/aeacus/log/Outcome") (P3 : Sta Z Z.heap "com/example/aeacus/aeacus/log/Outcome" "$VALUES" "[Lcom/example/aeacus/aeacus/log/Outcome;" (.ref w__VALUES)) (P4 : Exa Z Z.heap w__VALUES "[Lcom/example/aeacus/aeacus/log/Outcome;") (P5 : Sta Z Z.heap "com/example/aeacus/aeacus/log/Outcome" "REFUSED" "Lcom/example/aeacus/aeacus/log/Outcome;" (.ref w_REFUSED)) (P6 : Exa Z Z.heap w_REFUSED "com/example/aeacus/aeacus/log/Outcome") (P7 : Sta Z Z.heap "com/example/aeacus/aeacus/log/Outcome" "FAILED" "Lcom/example/aeacus/aeacus/log/Outcome;" (.ref w_FAILED)) (P8 : Exa Z Z.heap w_FAILED "com/example/aeacus/aeacus/log/Outcome") (P9 : Sta Z Z.heap "java/lang/String" "COMPACT_STRINGS" "Z" (.int w_COMPACT_STRINGS)) (P10 : Fld Z Z.heap w_GRANTED "com/example/aeacus/aeacus/log/Outcome" "label" "Ljava/lang/String;" (.ref v_label_w_GRANTED)) (P11 : Exa Z Z.heap v_label_w_GRANTED "java/lang/String") (P12 : Fld Z Z.heap w_REFUSED "com/example/aeacus/aeacus/log/Outcome" "label" "Ljava/lang/String;" (.ref v_label_w_REFUSED)) (P13 : Exa Z Z.heap v_label_w_REFUSED "java/lang/String") (P14 : Fld Z Z.heap w_FAILED "com/example/aeacus/aeacus/log/Outcome" "label" "Ljava/lang/String;" (.ref v_label_w_FAILED)) (P15 : Exa Z Z.heap v_label_w_FAILED "java/lang/String") (P16 : Fld Z Z.heap v_label_w_GRANTED "java/lang/String" "value" "[B" (.ref v_value_v_label_w_GRANTED)) (P17 : Fld Z Z.heap v_label_w_REFUSED "java/lang/String" "value" "[B" (.ref v_value_v_label_w_REFUSED)) (P18 : Fld Z Z.heap v_label_w_FAILED "java/lang/String" "value" "[B" (.ref v_value_v_label_w_FAILED)) (P19 : Fld Z Z.heap v_label_w_GRANTED "java/lang/String" "coder" "B" (.int (0 : Int32))) (P20 : Fld Z Z.heap v_label_w_REFUSED "java/lang/String" "coder" "B" (.int (0 : Int32))) (P21 : Fld Z Z.heap v_label_w_FAILED "java/lang/String" "coder" "B" (.int (0 : Int32))) (P22 : Arv Z Z.heap w__VALUES k_w__VALUES (.object "com/example/aeacus/aeacus/log/Outcome") (3 : Int32) [(.ref w_GRANTED), (.ref w_REFUSED), (.ref w_FAILED)] .null) (P23 : Arv Z Z.heap v_value_v_label_w_GRANTED k_v_value_v_label_w_GRANTED .byte (7 : Int32) [(.int (103 : Int32)), (.int (114 : Int32)), (.int (97 : Int32)), (.int (110 : Int32)), (.int (116 : Int32)), (.int (101 : Int32)), (.int (100 : Int32))] (.int (0 : Int32))) (P24 : Arv Z Z.heap v_value_v_label_w_REFUSED k_v_value_v_label_w_REFUSED .byte (7 : Int32) [(.int (114 : Int32)), (.int (101 : Int32)), (.int (102 : Int32)), (.int (117 : Int32)), (.int (115 : Int32)), (.int (101 : Int32)), (.int (100 : Int32))] (.int (0 : Int32))) (P25 : Arv Z Z.heap v_value_v_label_w_FAILED k_v_value_v_label_w_FAILED .byte (6 : Int32) [(.int (102 : Int32)), (.int (97 : Int32)), (.int (105 : Int32)), (.int (108 : Int32)), (.int (101 : Int32)), (.int (100 : Int32))] (.int (0 : Int32))) :
    MetFree l x (head1 (Jvm.Cond.code x code maxLocals ret :: ws) room_1) (fun a U => a = #[(.int p0_)] ∧ Z.Warmed39 U.vm ∧ U.heap = h0) (fun _ _ _ _ _ => True) (fun _ U o U' => ∃ v L, o = .returned v ∧ QLaw Z p0_ v_value_v_label_w_FAILED v_value_v_label_w_REFUSED v_value_v_label_w_GRANTED v_label_w_FAILED v_label_w_REFUSED v_label_w_GRANTED w_COMPACT_STRINGS w_FAILED w_REFUSED w__VALUES w_GRANTED k_w__VALUES k_v_value_v_label_w_GRANTED k_v_value_v_label_w_REFUSED k_v_value_v_label_w_FAILED h0 n0 v U'.heap L ∧ FrameEnd U o U' L room_1.cells room_1.slots) := by
  refine MetFree.of_bodySF (plainFor_of_name pn_4) hisR ?_
  intro p e s m args below meth c s₁ Bd hml0 hP hK
  obtain ⟨rfl, hZ, hh⟩ := hP
  have hx := Bd.exec
  have hby := Bd.bytes
  have hml : c.maxLocals = 6 := hml0
  have hown : s.vm.findClass "com/example/aeacus/aeacus/log/OutcomeOfPinLaw" = some m.cls := findClass_of_methodNamed Bd.named
  have hnm := (name_of_methodNamed Bd.named Bd.method).1
  have X0 : Stand p l e room_1 s m #[(.int p0_)] below meth c s₁ [] 0 0 := Stand.of_body Bd
  have e0 : s₁.heap = h0 := by rw [← hh, Bd.state]; rfl
  have N0 := Fr.nil n0
  have pre0 : ∀ t, Steps p.tables e below (s₁.setTop (mkF m 0 #[.val (.int p0_), .unset, .unset, .unset, .unset, .unset] [])) t → Steps p.tables e below (s₁.setTop (entryFrame m #[(.int p0_)] maxLocals)) t := fun t k => castTop (efLaw m p0_) k
  have K0 : Keep h0 h0 [] := Keep.refl _ _
  have pre1 : ∀ t, Steps p.tables e below (s₁.setTop (mkF m 6 #[.val (.int p0_), .unset, .unset, .unset, .unset, .unset] [(.int ((p0_ &&& (2147483647 : Int32)) % (3 : Int32)))])) t → Steps p.tables e below (s₁.setTop (entryFrame m #[(.int p0_)] maxLocals)) t := by
    intro t kt
    refine pre0 t ?_
    show Steps p.tables e below (s₁.setTop (mkF m 0 #[.val (.int p0_), .unset, .unset, .unset, .unset, .unset] [])) _
    refine XS.iloadN X0.here hx rfl (hb hby at_0) rfl ?_
    show Steps p.tables e below (s₁.setTop (mkF m 1 #[.val (.int p0_), .unset, .unset, .unset, .unset, .unset] [(.int p0_)])) _
    refine X0.ldcInt hx hown (mvT hZ (hw _ (List.mem_of_getElem? (i := 0) rfl))) (g := (mkF m 1 #[.val (.int p0_), .unset, .unset, .unset, .unset, .unset] [(.int p0_)])) rfl (hb hby at_1) _ ?_
    show Steps p.tables e below (s₁.setTop (mkF m 3 #[.val (.int p0_), .unset, .unset, .unset, .unset, .unset] [(.int (2147483647 : Int32)), (.int p0_)])) _
    refine XS.iand X0.here hx rfl (hb hby at_3) rfl ?_
    show Steps p.tables e below (s₁.setTop (mkF m 4 #[.val (.int p0_), .unset, .unset, .unset, .unset, .unset] [(.int (p0_ &&& (2147483647 : Int32)))])) _
    refine XS.iconst X0.here hx rfl (hb hby at_4) ?_
    show Steps p.tables e below (s₁.setTop (mkF m 5 #[.val (.int p0_), .unset, .unset, .unset, .unset, .unset] [(.int (3 : Int32)), (.int (p0_ &&& (2147483647 : Int32)))])) _
    refine iremM (g := (mkF m 5 #[.val (.int p0_), .unset, .unset, .unset, .unset, .unset] [(.int (3 : Int32)), (.int (p0_ &&& (2147483647 : Int32)))])) X0 hx rfl (hb hby at_5) rfl (by decide) ?_
    exact kt
  have hv2 : ((p0_ &&& (2147483647 : Int32)) % (3 : Int32)) = (0 : Int32) ∨ ((p0_ &&& (2147483647 : Int32)) % (3 : Int32)) = (1 : Int32) ∨ ((p0_ &&& (2147483647 : Int32)) % (3 : Int32)) = (2 : Int32) := own_mod3 _
  rcases hv2 with hv3 | hv3 | hv3
  · have pre4 : ∀ t, Steps p.tables e below (s₁.setTop (mkF m 6 #[.val (.int p0_), .unset, .unset, .unset, .unset, .unset] [(.int (0 : Int32))])) t → Steps p.tables e below (s₁.setTop (entryFrame m #[(.int p0_)] maxLocals)) t := fun t kt => pre1 t (by rw [hv3]; exact kt)
    obtain ⟨T5, X5, e5, st5⟩ := getS2 X0 hx hZ hown (host := "") (Or.inl (hw _ (List.mem_of_getElem? (i := 1) rfl))) Via.refl e0 (P1.ext O0.2) (g := (mkF m 11 #[.val (.int p0_), .val (.int (0 : Int32)), .unset, .unset, .unset, .unset] [])) rfl (hb hby at_11)
    obtain ⟨T6, h6, k6, X6, e6, E6, A6, Z6, st6⟩ := newPE X5 hx hZ (hw _ (List.mem_of_getElem? (i := 4) rfl)) e5 (g := (mkF m 17 #[.val (.int p0_), .val (.int (0 : Int32)), .val (.ref w_GRANTED), .unset, .unset, .unset] [(.int (7 : Int32))])) rfl (hb hby at_17) rfl (by decide) (cap := 7) (by decide) (by decide) (by decide) (by decide) (ad := "[C") (by decide)
    obtain ⟨b6, g6⟩ : ∃ z, z = h0.size := ⟨_, rfl⟩
    rw [← g6] at A6 Z6 st6
    have ge7 : n0 ≤ b6 := Nat.le_trans (Nat.le_trans (Nat.le_of_eq O0.1.symm) O0.2.1) (Nat.le_of_eq g6.symm)
    have sz8 : h0.size ≤ b6 := Nat.le_trans K0.1 (Nat.le_of_eq g6.symm)
    have f9 : Arv Z h6 b6 k6 .char (7 : Int32) [(.int (0 : Int32)), (.int (0 : Int32)), (.int (0 : Int32)), (.int (0 : Int32)), (.int (0 : Int32)), (.int (0 : Int32)), (.int (0 : Int32))] (.int (0 : Int32)) := (Arv.new A6 (by decide)).pad (pad_rep [] (.int (0 : Int32)) 7)
    obtain ⟨c10, r10, q10, s10, z10, y10, G10⟩ := id f9
    have hin10 : ¬ ((0 : Int32) < 0 ∨ c10.slots.size ≤ ((0 : Int32)).toNatClampNeg) := inb_of s10 ⟨by decide, by decide⟩
    obtain ⟨T10, h10, X10, e10, W10, st10⟩ := stC X6 hx hZ e6 r10 (j := (0 : Int32)) hin10 (g := (mkF m 23 #[.val (.int p0_), .val (.int (0 : Int32)), .val (.ref w_GRANTED), .unset, .unset, .unset] [(.int (103 : Int32)), (.int (0 : Int32)), (.ref b6), (.ref b6)])) rfl rfl (hb hby at_23)
    have N11 := Fr.snoc X10 N0 ge7
    have f12 : Arv Z h10 b6 k6 .char (7 : Int32) [(.int ((103 : Int32).toUInt32.toUInt16.toUInt32.toInt32)), (.int (0 : Int32)), (.int (0 : Int32)), (.int (0 : Int32)), (.int (0 : Int32)), (.int (0 : Int32)), (.int (0 : Int32))] (.int (0 : Int32)) := Arv.set r10 q10 s10 z10 y10 G10 (fits_nar_char _) W10 0 rfl (Nat.le_of_ble_eq_true rfl)
    have f13 : Arv Z h10 b6 k6 .char (7 : Int32) [(.int (103 : Int32)), (.int (0 : Int32)), (.int (0 : Int32)), (.int (0 : Int32)), (.int (0 : Int32)), (.int (0 : Int32)), (.int (0 : Int32))] (.int (0 : Int32)) := by have q := f12; exact q
    obtain ⟨c14, r14, q14, s14, z14, y14, G14⟩ := id f13
    have hin14 : ¬ ((1 : Int32) < 0 ∨ c14.slots.size ≤ ((1 : Int32)).toNatClampNeg) := inb_of s14 ⟨by decide, by decide⟩
    obtain ⟨T14, h14, X14, e14, W14, st14⟩ := stC X10 hx hZ e10 r14 (j := (1 : Int32)) hin14 (g := (mkF m 28 #[.val (.int p0_), .val (.int (0 : Int32)), .val (.ref w_GRANTED), .unset, .unset, .unset] [(.int (114 : Int32)), (.int (1 : Int32)), (.ref b6), (.ref b6)])) rfl rfl (hb hby at_28)
    have N15 := Fr.snoc X14 N11 ge7
    have f16 : Arv Z h14 b6 k6 .char (7 : Int32) [(.int (103 : Int32)), (.int ((114 : Int32).toUInt32.toUInt16.toUInt32.toInt32)), (.int (0 : Int32)), (.int (0 : Int32)), (.int (0 : Int32)), (.int (0 : Int32)), (.int (0 : Int32))] (.int (0 : Int32)) := Arv.set r14 q14 s14 z14 y14 G14 (fits_nar_char _) W14 1 rfl (Nat.le_of_ble_eq_true rfl)
    have f17 : Arv Z h14 b6 k6 .char (7 : Int32) [(.int (103 : Int32)), (.int (114 : Int32)), (.int (0 : Int32)), (.int (0 : Int32)), (.int (0 : Int32)), (.int (0 : Int32)), (.int (0 : Int32))] (.int (0 : Int32)) := by have q := f16; exact q
    obtain ⟨c18, r18, q18, s18, z18, y18, G18⟩ := id f17
    have hin18 : ¬ ((2 : Int32) < 0 ∨ c18.slots.size ≤ ((2 : Int32)).toNatClampNeg) := inb_of s18 ⟨by decide, by decide⟩
    obtain ⟨T18, h18, X18, e18, W18, st18⟩ := stC X14 hx hZ e14 r18 (j := (2 : Int32)) hin18 (g := (mkF m 33 #[.val (.int p0_), .val (.int (0 : Int32)), .val (.ref w_GRANTED), .unset, .unset, .unset] [(.int (97 : Int32)), (.int (2 : Int32)), (.ref b6), (.ref b6)])) rfl rfl (hb hby at_33)
    have N19 := Fr.snoc X18 N15 ge7
    have f20 : Arv Z h18 b6 k6 .char (7 : Int32) [(.int (103 : Int32)), (.int (114 : Int32)), (.int ((97 : Int32).toUInt32.toUInt16.toUInt32.toInt32)), (.int (0 : Int32)), (.int (0 : Int32)), (.int (0 : Int32)), (.int (0 : Int32))] (.int (0 : Int32)) := Arv.set r18 q18 s18 z18 y18 G18 (fits_nar_char _) W18 2 rfl (Nat.le_of_ble_eq_true rfl)
    have f21 : Arv Z h18 b6 k6 .char (7 : Int32) [(.int (103 : Int32)), (.int (114 : Int32)), (.int (97 : Int32)), (.int (0 : Int32)), (.int (0 : Int32)), (.int (0 : Int32)), (.int (0 : Int32))] (.int (0 : Int32)) := by have q := f20; exact q
    obtain ⟨c22, r22, q22, s22, z22, y22, G22⟩ := id f21
    have hin22 : ¬ ((3 : Int32) < 0 ∨ c22.slots.size ≤ ((3 : Int32)).toNatClampNeg) := inb_of s22 ⟨by decide, by decide⟩
    obtain ⟨T22, h22, X22, e22, W22, st22⟩ := stC X18 hx hZ e18 r22 (j := (3 : Int32)) hin22 (g := (mkF m 38 #[.val (.int p0_), .val (.int (0 : Int32)), .val (.ref w_GRANTED), .unset, .unset, .unset] [(.int (110 : Int32)), (.int (3 : Int32)), (.ref b6), (.ref b6)])) rfl rfl (hb hby at_38)
    have N23 := Fr.snoc X22 N19 ge7
    have f24 : Arv Z h22 b6 k6 .char (7 : Int32) [(.int (103 : Int32)), (.int (114 : Int32)), (.int (97 : Int32)), (.int ((110 : Int32).toUInt32.toUInt16.toUInt32.toInt32)), (.int (0 : Int32)), (.int (0 : Int32)), (.int (0 : Int32))] (.int (0 : Int32)) := Arv.set r22 q22 s22 z22 y22 G22 (fits_nar_char _) W22 3 rfl (Nat.le_of_ble_eq_true rfl)
    have f25 : Arv Z h22 b6 k6 .char (7 : Int32) [(.int (103 : Int32)), (.int (114 : Int32)), (.int (97 : Int32)), (.int (110 : Int32)), (.int (0 : Int32)), (.int (0 : Int32)), (.int (0 : Int32))] (.int (0 : Int32)) := by have q := f24; exact q
    obtain ⟨c26, r26, q26, s26, z26, y26, G26⟩ := id f25
    have hin26 : ¬ ((4 : Int32) < 0 ∨ c26.slots.size ≤ ((4 : Int32)).toNatClampNeg) := inb_of s26 ⟨by decide, by decide⟩
    obtain ⟨T26, h26, X26, e26, W26, st26⟩ := stC X22 hx hZ e22 r26 (j := (4 : Int32)) hin26 (g := (mkF m 43 #[.val (.int p0_), .val (.int (0 : Int32)), .val (.ref w_GRANTED), .unset, .unset, .unset] [(.int (116 : Int32)), (.int (4 : Int32)), (.ref b6), (.ref b6)])) rfl rfl (hb hby at_43)
    have N27 := Fr.snoc X26 N23 ge7
    have f28 : Arv Z h26 b6 k6 .char (7 : Int32) [(.int (103 : Int32)), (.int (114 : Int32)), (.int (97 : Int32)), (.int (110 : Int32)), (.int ((116 : Int32).toUInt32.toUInt16.toUInt32.toInt32)), (.int (0 : Int32)), (.int (0 : Int32))] (.int (0 : Int32)) := Arv.set r26 q26 s26 z26 y26 G26 (fits_nar_char _) W26 4 rfl (Nat.le_of_ble_eq_true rfl)
    have f29 : Arv Z h26 b6 k6 .char (7 : Int32) [(.int (103 : Int32)), (.int (114 : Int32)), (.int (97 : Int32)), (.int (110 : Int32)), (.int (116 : Int32)), (.int (0 : Int32)), (.int (0 : Int32))] (.int (0 : Int32)) := by have q := f28; exact q
    obtain ⟨c30, r30, q30, s30, z30, y30, G30⟩ := id f29
    have hin30 : ¬ ((5 : Int32) < 0 ∨ c30.slots.size ≤ ((5 : Int32)).toNatClampNeg) := inb_of s30 ⟨by decide, by decide⟩
    obtain ⟨T30, h30, X30, e30, W30, st30⟩ := stC X26 hx hZ e26 r30 (j := (5 : Int32)) hin30 (g := (mkF m 48 #[.val (.int p0_), .val (.int (0 : Int32)), .val (.ref w_GRANTED), .unset, .unset, .unset] [(.int (101 : Int32)), (.int (5 : Int32)), (.ref b6), (.ref b6)])) rfl rfl (hb hby at_48)
    have N31 := Fr.snoc X30 N27 ge7
    have f32 : Arv Z h30 b6 k6 .char (7 : Int32) [(.int (103 : Int32)), (.int (114 : Int32)), (.int (97 : Int32)), (.int (110 : Int32)), (.int (116 : Int32)), (.int ((101 : Int32).toUInt32.toUInt16.toUInt32.toInt32)), (.int (0 : Int32))] (.int (0 : Int32)) := Arv.set r30 q30 s30 z30 y30 G30 (fits_nar_char _) W30 5 rfl (Nat.le_of_ble_eq_true rfl)
    have f33 : Arv Z h30 b6 k6 .char (7 : Int32) [(.int (103 : Int32)), (.int (114 : Int32)), (.int (97 : Int32)), (.int (110 : Int32)), (.int (116 : Int32)), (.int (101 : Int32)), (.int (0 : Int32))] (.int (0 : Int32)) := by have q := f32; exact q
    obtain ⟨c34, r34, q34, s34, z34, y34, G34⟩ := id f33
    have hin34 : ¬ ((6 : Int32) < 0 ∨ c34.slots.size ≤ ((6 : Int32)).toNatClampNeg) := inb_of s34 ⟨by decide, by decide⟩
    obtain ⟨T34, h34, X34, e34, W34, st34⟩ := stC X30 hx hZ e30 r34 (j := (6 : Int32)) hin34 (g := (mkF m 54 #[.val (.int p0_), .val (.int (0 : Int32)), .val (.ref w_GRANTED), .unset, .unset, .unset] [(.int (100 : Int32)), (.int (6 : Int32)), (.ref b6), (.ref b6)])) rfl rfl (hb hby at_54)
    have N35 := Fr.snoc X34 N31 ge7
    have f36 : Arv Z h34 b6 k6 .char (7 : Int32) [(.int (103 : Int32)), (.int (114 : Int32)), (.int (97 : Int32)), (.int (110 : Int32)), (.int (116 : Int32)), (.int (101 : Int32)), (.int ((100 : Int32).toUInt32.toUInt16.toUInt32.toInt32))] (.int (0 : Int32)) := Arv.set r34 q34 s34 z34 y34 G34 (fits_nar_char _) W34 6 rfl (Nat.le_of_ble_eq_true rfl)
    have f37 : Arv Z h34 b6 k6 .char (7 : Int32) [(.int (103 : Int32)), (.int (114 : Int32)), (.int (97 : Int32)), (.int (110 : Int32)), (.int (116 : Int32)), (.int (101 : Int32)), (.int (100 : Int32))] (.int (0 : Int32)) := by have q := f36; exact q
    obtain ⟨T38, h38, X38, e38, E38, A38, D38, -, st38⟩ := newO X34 hx hZ hown (hw _ (List.mem_of_getElem? (i := 5) rfl)) (hw _ (List.mem_of_getElem? (i := 6) rfl)) (hw _ (List.mem_of_getElem? (i := 7) rfl)) e34 (g := (mkF m 151 #[.val (.int p0_), .val (.int (0 : Int32)), .val (.ref w_GRANTED), .val (.ref b6), .unset, .unset] [])) rfl (hb hby at_151) (by decide) (by decide)
    obtain ⟨b38, g38⟩ : ∃ z, z = h34.size := ⟨_, rfl⟩
    rw [← g38] at A38 D38 st38
    have f39 : Old Z n0 h6 := O0.ext E6
    have f40 : Old Z n0 h10 := f39.wr W10 ge7
    have f41 : Old Z n0 h14 := f40.wr W14 ge7
    have f42 : Old Z n0 h18 := f41.wr W18 ge7
    have f43 : Old Z n0 h22 := f42.wr W22 ge7
    have f44 : Old Z n0 h26 := f43.wr W26 ge7
    have f45 : Old Z n0 h30 := f44.wr W30 ge7
    have f46 : Old Z n0 h34 := f45.wr W34 ge7
    have ge47 : n0 ≤ b38 := Nat.le_trans (Nat.le_trans (Nat.le_of_eq f46.1.symm) f46.2.1) (Nat.le_of_eq g38.symm)
    have f48 : Keep h0 h6 [] := K0.ext E6
    have f49 : Keep h0 h10 [] := f48.wr W10 (Or.inr sz8)
    have f50 : Keep h0 h14 [] := f49.wr W14 (Or.inr sz8)
    have f51 : Keep h0 h18 [] := f50.wr W18 (Or.inr sz8)
    have f52 : Keep h0 h22 [] := f51.wr W22 (Or.inr sz8)
    have f53 : Keep h0 h26 [] := f52.wr W26 (Or.inr sz8)
    have f54 : Keep h0 h30 [] := f53.wr W30 (Or.inr sz8)
    have f55 : Keep h0 h34 [] := f54.wr W34 (Or.inr sz8)
    have sz56 : h0.size ≤ b38 := Nat.le_trans f55.1 (Nat.le_of_eq g38.symm)
    have f57 : Fld Z h38 b38 "java/lang/String" "coder" "B" (.int (0 : Int32)) := D38 (Or.inr (hw _ (List.mem_of_getElem? (i := 31) rfl))) (ty := .byte) (by decide)
    have f58 : Fld Z h38 b38 "java/lang/String" "value" "[B" .null := D38 (Or.inr (hw _ (List.mem_of_getElem? (i := 33) rfl))) (ty := (.array .byte)) (by decide)
    have f60 : Arv Z h38 b6 k6 .char (7 : Int32) [(.int (103 : Int32)), (.int (114 : Int32)), (.int (97 : Int32)), (.int (110 : Int32)), (.int (116 : Int32)), (.int (101 : Int32)), (.int (100 : Int32))] (.int (0 : Int32)) := f37.ext E38
    have f61 : Exa Z h10 b6 "[C" := Z6.wr W10
    have f62 : Exa Z h14 b6 "[C" := f61.wr W14
    have f63 : Exa Z h18 b6 "[C" := f62.wr W18
    have f64 : Exa Z h22 b6 "[C" := f63.wr W22
    have f65 : Exa Z h26 b6 "[C" := f64.wr W26
    have f66 : Exa Z h30 b6 "[C" := f65.wr W30
    have f67 : Exa Z h34 b6 "[C" := f66.wr W34
    have f68 : Exa Z h38 b6 "[C" := f67.ext E38
    have f69 : Old Z n0 h38 := f46.ext E38
    obtain ⟨_, _, ⟨T59, L59, k59, n59⟩, -, X59, ⟨Lc59, hQ59, l59, y59, z59⟩, st59⟩ := X38.specialBack hx (y := (⟨"java/lang/String", "<init>", "([C)V"⟩ : MethodName)) rfl hown (mvT hZ (hw _ (List.mem_of_getElem? (i := 8) rfl))) (mvT hZ (hw _ (List.mem_of_getElem? (i := 9) rfl))) (mvT hZ (hw _ (List.mem_of_getElem? (i := 10) rfl))) (by decide) (backOf (W := 1) (rminit1 l Z a0 hw [] b38 b6 k6 w_COMPACT_STRINGS h38 n0 f69 A38 f57 f58 f60 f68 hz_0 P9 ge47) hZ (hw _ (List.mem_of_getElem? (i := 10) rfl)) (hw _ (List.mem_of_getElem? (i := 7) rfl)) (by decide) (by decide)) (g := (mkF m 156 #[.val (.int p0_), .val (.int (0 : Int32)), .val (.ref w_GRANTED), .val (.ref b6), .unset, .unset] [(.ref b6), (.ref b38), (.ref b38)])) rfl (by rw [hml]; rfl) (Steps.refl _) (a := b38) (argsL := [(.ref b6)]) (rest := [(.ref b38)]) (lenOf pd_4 rfl) rfl (by show 2 * 0 + _ ≤ _; exact Nat.le_of_eq rfl) (hb hby at_156) (fun _ _ => ⟨rfl, e38, (by decide : 2 + 1 ≤ _), (by decide : 11 + 7 ≤ _)⟩)
    dsimp only [Pt.U, Pt.locs, Pt.cells, Pt.slots] at X59 l59 y59 z59 st59 hQ59
    subst l59 y59 z59
    obtain ⟨h59, e59⟩ : ∃ z, T59.heap = z := ⟨_, rfl⟩
    rw [e59] at hQ59
    obtain ⟨k1_3_2_59, nnnb1_3_2_59, rfl, N59q, K59, sznnnb1_3_2_59, g59_0, g59_1, g59_2, g59_3, g59_4⟩ := hQ59
    have N70 := Fr.app N35 N59q
    have ge71 : n0 ≤ nnnb1_3_2_59 := Nat.le_trans (Nat.le_trans (Nat.le_of_eq f69.1.symm) f69.2.1) sznnnb1_3_2_59
    have f72 : Keep h0 h38 [] := f55.ext E38
    have sz73 : h0.size ≤ nnnb1_3_2_59 := Nat.le_trans f72.1 sznnnb1_3_2_59
    have f75 : Old Z n0 h59 := f69.keep K59 (allS (ge47) all0)
    obtain ⟨_, _, ⟨T74, L74, k74, n74⟩, -, X74, ⟨Lc74, hQ74, l74, y74, z74⟩, st74⟩ := Jvm.LawKit.callS X59 hx (y := (⟨"com/example/aeacus/aeacus/log/Outcome", "of", "(Ljava/lang/String;)Lcom/example/aeacus/aeacus/log/Outcome;"⟩ : MethodName)) hown (mvT hZ (hw _ (List.mem_of_getElem? (i := 34) rfl))) (mvT hZ (hw _ (List.mem_of_getElem? (i := 35) rfl))) (mvT hZ (hw _ (List.mem_of_getElem? (i := 2) rfl))) (mvT hZ (hw _ (List.mem_of_getElem? (i := 36) rfl))) (by decide) (backOf (W := 0) (rmof7 l Z a0 hw [] b38 nnnb1_3_2_59 k1_3_2_59 w__VALUES k_w__VALUES w_GRANTED w_REFUSED w_FAILED v_label_w_GRANTED v_label_w_REFUSED v_label_w_FAILED v_value_v_label_w_GRANTED v_value_v_label_w_REFUSED v_value_v_label_w_FAILED k_v_value_v_label_w_GRANTED k_v_value_v_label_w_REFUSED k_v_value_v_label_w_FAILED w_COMPACT_STRINGS h59 n0 f75 g59_0 g59_1 g59_2 g59_3 g59_4 P4 P22 P2 P10 P6 P12 P8 P14 P11 P16 P19 P13 P17 P20 P15 P18 P21 P23 P24 P25 P3 hz_0 P9 ge47) hZ (hw _ (List.mem_of_getElem? (i := 36) rfl)) (hw _ (List.mem_of_getElem? (i := 2) rfl)) (by decide) (by decide)) (g := (mkF m 163 #[.val (.int p0_), .val (.int (0 : Int32)), .val (.ref w_GRANTED), .val (.ref b6), .val (.ref b38), .unset] [(.ref b38)])) rfl (by rw [hml]; rfl) (argsL := [(.ref b38)]) (rest := []) (lenOf pd_8 rfl) rfl (by show 2 * 0 + _ ≤ _; exact Nat.le_of_eq rfl) (hb hby at_163) (fun _ _ => ⟨rfl, e59, (by decide : 3 + 1 ≤ _), (by decide : 18 + 3 ≤ _)⟩)
    dsimp only [Pt.U, Pt.locs, Pt.cells, Pt.slots] at X74 l74 y74 z74 st74 hQ74
    subst l74 y74 z74
    obtain ⟨h74, e74⟩ : ∃ z, T74.heap = z := ⟨_, rfl⟩
    rw [e74] at hQ74
    obtain ⟨rfl, N74q, K74⟩ := hQ74
    have N76 := Fr.app N70 N74q
    have f78 : Old Z n0 h74 := f75.keep K74 all0
    have f79 : Exa Z h74 w_GRANTED "com/example/aeacus/aeacus/log/Outcome" := P2.ext f78.2
    obtain ⟨cq77, kq77, q77a, q77b, q77c⟩ := isOf hZ e74 f79
    obtain ⟨_, _, ⟨T77, L77, k77, n77⟩, -, X77, ⟨Lc77, hQ77, l77, y77, z77⟩, st77⟩ := X74.virtualBack hx (y := (⟨"com/example/aeacus/aeacus/log/Outcome", "label", "()Ljava/lang/String;"⟩ : MethodName)) (z := (⟨"com/example/aeacus/aeacus/log/Outcome", "label", "()Ljava/lang/String;"⟩ : MethodName)) hown (mvT hZ (hw _ (List.mem_of_getElem? (i := 66) rfl))) (mvT hZ (hw _ (List.mem_of_getElem? (i := 67) rfl))) (notFace_of_selects (args := #[]) (mvT hZ (hw _ (List.mem_of_getElem? (i := 69) rfl)))) (mvT hZ (hw _ (List.mem_of_getElem? (i := 69) rfl))) (mvT hZ (hw _ (List.mem_of_getElem? (i := 68) rfl))) (by decide) (backOf (W := 0) (rmlabel13 l Z a0 hw [] w_GRANTED v_label_w_GRANTED v_value_v_label_w_GRANTED k_v_value_v_label_w_GRANTED h74 n0 f78 P2 P10 P11 P16 P19 P23) hZ (hw _ (List.mem_of_getElem? (i := 70) rfl)) (hw _ (List.mem_of_getElem? (i := 2) rfl)) (by decide) (by decide)) q77a q77c (g := (mkF m 176 #[.val (.int p0_), .val (.int (0 : Int32)), .val (.ref w_GRANTED), .val (.ref b6), .val (.ref b38), .val (.ref w_GRANTED)] [(.ref w_GRANTED)])) rfl (by rw [hml]; rfl) (Steps.refl _) (argsL := []) (rest := []) (lenOf pd_9 rfl) rfl (by show 2 * 0 + _ ≤ _; exact Nat.le_of_eq rfl) (hb hby at_176) (fun _ _ => ⟨rfl, e74, (by decide : 4 + 0 ≤ _), (by decide : 21 + 0 ≤ _)⟩)
    dsimp only [Pt.U, Pt.locs, Pt.cells, Pt.slots] at X77 l77 y77 z77 st77 hQ77
    subst l77 y77 z77
    obtain ⟨h77, e77⟩ : ∃ z, T77.heap = z := ⟨_, rfl⟩
    rw [e77] at hQ77
    obtain ⟨rfl, N77q, hh77⟩ := hQ77
    have N80 := Fr.app N76 N77q
    have e77' : T77.heap = h74 := e77.trans hh77
    have f82 : Exa Z h74 b38 "java/lang/String" := g59_0.keep K74
    have f83 : Fld Z h74 b38 "java/lang/String" "coder" "B" (.int (0 : Int32)) := g59_1.keep K74 nin0
    have f84 : Fld Z h74 b38 "java/lang/String" "value" "[B" (.ref nnnb1_3_2_59) := g59_2.keep K74 nin0
    have f85 : Arv Z h74 nnnb1_3_2_59 k1_3_2_59 .byte (7 : Int32) [(.int (103 : Int32)), (.int (114 : Int32)), (.int (97 : Int32)), (.int (110 : Int32)), (.int (116 : Int32)), (.int (101 : Int32)), (.int (100 : Int32))] (.int (0 : Int32)) := g59_3.keep K74 nin0
    have f86 : Exa Z h74 nnnb1_3_2_59 "[B" := g59_4.keep K74
    have f87 : Exa Z h74 v_label_w_GRANTED "java/lang/String" := P11.ext f78.2
    obtain ⟨cq81, kq81, q81a, q81b, q81c⟩ := isOf hZ e77' f87
    obtain ⟨_, _, ⟨T81, L81, k81, n81⟩, -, X81, ⟨Lc81, hQ81, l81, y81, z81⟩, st81⟩ := X77.virtualBack hx (y := (⟨"java/lang/String", "equals", "(Ljava/lang/Object;)Z"⟩ : MethodName)) (z := (⟨"java/lang/String", "equals", "(Ljava/lang/Object;)Z"⟩ : MethodName)) hown (mvT hZ (hw _ (List.mem_of_getElem? (i := 71) rfl))) (mvT hZ (hw _ (List.mem_of_getElem? (i := 57) rfl))) (notFace_of_selects (args := #[]) (mvT hZ (hw _ (List.mem_of_getElem? (i := 59) rfl)))) (mvT hZ (hw _ (List.mem_of_getElem? (i := 59) rfl))) (mvT hZ (hw _ (List.mem_of_getElem? (i := 58) rfl))) (by decide) (backOf (W := 0) (rmequals11 l Z a0 hw [] v_label_w_GRANTED b38 v_value_v_label_w_GRANTED nnnb1_3_2_59 k_v_value_v_label_w_GRANTED k1_3_2_59 w_COMPACT_STRINGS h74 n0 f78 P11 P16 P19 f82 f83 f84 P23 f85 f86 ge47 hz_0 P9) hZ (hw _ (List.mem_of_getElem? (i := 60) rfl)) (hw _ (List.mem_of_getElem? (i := 7) rfl)) (by decide) (by decide)) q81a q81c (g := (mkF m 181 #[.val (.int p0_), .val (.int (0 : Int32)), .val (.ref w_GRANTED), .val (.ref b6), .val (.ref b38), .val (.ref w_GRANTED)] [(.ref b38), (.ref v_label_w_GRANTED)])) rfl (by rw [hml]; rfl) (Steps.refl _) (argsL := [(.ref b38)]) (rest := []) (lenOf pd_7 rfl) rfl (by show 2 * 0 + _ ≤ _; exact Nat.le_of_eq rfl) (hb hby at_181) (fun _ _ => ⟨rfl, e77', (by decide : 4 + 0 ≤ _), (by decide : 21 + 0 ≤ _)⟩)
    dsimp only [Pt.U, Pt.locs, Pt.cells, Pt.slots] at X81 l81 y81 z81 st81 hQ81
    subst l81 y81 z81
    obtain ⟨h81, e81⟩ : ∃ z, T81.heap = z := ⟨_, rfl⟩
    rw [e81] at hQ81
    obtain ⟨rfl, N81q, hh81⟩ := hQ81
    have N88 := Fr.app N80 N81q
    have e81' : T81.heap = h74 := e81.trans hh81
    have pre89 : ∀ t, Steps p.tables e below (T81.setTop (mkF m 192 #[.val (.int p0_), .val (.int (0 : Int32)), .val (.ref w_GRANTED), .val (.ref b6), .val (.ref b38), .val (.ref w_GRANTED)] [(.int (1 : Int32))])) t → Steps p.tables e below (s₁.setTop (entryFrame m #[(.int p0_)] maxLocals)) t := by
      intro t kt
      refine pre4 t ?_
      show Steps p.tables e below (s₁.setTop (mkF m 6 #[.val (.int p0_), .unset, .unset, .unset, .unset, .unset] [(.int (0 : Int32))])) _
      refine XS.istoreN X0.here hx rfl (hb hby at_6) rfl (l' := #[.val (.int p0_), .val (.int (0 : Int32)), .unset, .unset, .unset, .unset]) rfl ?_
      show Steps p.tables e below (s₁.setTop (mkF m 7 #[.val (.int p0_), .val (.int (0 : Int32)), .unset, .unset, .unset, .unset] [])) _
      refine XS.iloadN X0.here hx rfl (hb hby at_7) rfl ?_
      show Steps p.tables e below (s₁.setTop (mkF m 8 #[.val (.int p0_), .val (.int (0 : Int32)), .unset, .unset, .unset, .unset] [(.int (0 : Int32))])) _
      refine XS.ifNo X0.here hx rfl (hb hby at_8) rfl ((if0 _ _).trans (teq (by decide : (0 : Int32) = (0 : Int32))).2) ?_
      show Steps p.tables e below (s₁.setTop (mkF m 11 #[.val (.int p0_), .val (.int (0 : Int32)), .unset, .unset, .unset, .unset] [])) _
      refine st5 _ ?_
      show Steps p.tables e below (T5.setTop (mkF m 14 #[.val (.int p0_), .val (.int (0 : Int32)), .unset, .unset, .unset, .unset] [(.ref w_GRANTED)])) _
      refine XS.astoreN X5.here hx rfl (hb hby at_14) rfl rfl (l' := #[.val (.int p0_), .val (.int (0 : Int32)), .val (.ref w_GRANTED), .unset, .unset, .unset]) rfl ?_
      show Steps p.tables e below (T5.setTop (mkF m 15 #[.val (.int p0_), .val (.int (0 : Int32)), .val (.ref w_GRANTED), .unset, .unset, .unset] [])) _
      refine XS.bipush X5.here hx rfl (hb hby at_15) ?_
      show Steps p.tables e below (T5.setTop (mkF m 17 #[.val (.int p0_), .val (.int (0 : Int32)), .val (.ref w_GRANTED), .unset, .unset, .unset] [(.int (7 : Int32))])) _
      refine st6 _ ?_
      show Steps p.tables e below (T6.setTop (mkF m 19 #[.val (.int p0_), .val (.int (0 : Int32)), .val (.ref w_GRANTED), .unset, .unset, .unset] [(.ref b6)])) _
      refine XS.dup X6.here hx rfl (hb hby at_19) rfl rfl ?_
      show Steps p.tables e below (T6.setTop (mkF m 20 #[.val (.int p0_), .val (.int (0 : Int32)), .val (.ref w_GRANTED), .unset, .unset, .unset] [(.ref b6), (.ref b6)])) _
      refine XS.iconst X6.here hx rfl (hb hby at_20) ?_
      show Steps p.tables e below (T6.setTop (mkF m 21 #[.val (.int p0_), .val (.int (0 : Int32)), .val (.ref w_GRANTED), .unset, .unset, .unset] [(.int (0 : Int32)), (.ref b6), (.ref b6)])) _
      refine XS.bipush X6.here hx rfl (hb hby at_21) ?_
      show Steps p.tables e below (T6.setTop (mkF m 23 #[.val (.int p0_), .val (.int (0 : Int32)), .val (.ref w_GRANTED), .unset, .unset, .unset] [(.int (103 : Int32)), (.int (0 : Int32)), (.ref b6), (.ref b6)])) _
      refine st10 _ ?_
      show Steps p.tables e below (T10.setTop (mkF m 24 #[.val (.int p0_), .val (.int (0 : Int32)), .val (.ref w_GRANTED), .unset, .unset, .unset] [(.ref b6)])) _
      refine XS.dup X10.here hx rfl (hb hby at_24) rfl rfl ?_
      show Steps p.tables e below (T10.setTop (mkF m 25 #[.val (.int p0_), .val (.int (0 : Int32)), .val (.ref w_GRANTED), .unset, .unset, .unset] [(.ref b6), (.ref b6)])) _
      refine XS.iconst X10.here hx rfl (hb hby at_25) ?_
      show Steps p.tables e below (T10.setTop (mkF m 26 #[.val (.int p0_), .val (.int (0 : Int32)), .val (.ref w_GRANTED), .unset, .unset, .unset] [(.int (1 : Int32)), (.ref b6), (.ref b6)])) _
      refine XS.bipush X10.here hx rfl (hb hby at_26) ?_
      show Steps p.tables e below (T10.setTop (mkF m 28 #[.val (.int p0_), .val (.int (0 : Int32)), .val (.ref w_GRANTED), .unset, .unset, .unset] [(.int (114 : Int32)), (.int (1 : Int32)), (.ref b6), (.ref b6)])) _
      refine st14 _ ?_
      show Steps p.tables e below (T14.setTop (mkF m 29 #[.val (.int p0_), .val (.int (0 : Int32)), .val (.ref w_GRANTED), .unset, .unset, .unset] [(.ref b6)])) _
      refine XS.dup X14.here hx rfl (hb hby at_29) rfl rfl ?_
      show Steps p.tables e below (T14.setTop (mkF m 30 #[.val (.int p0_), .val (.int (0 : Int32)), .val (.ref w_GRANTED), .unset, .unset, .unset] [(.ref b6), (.ref b6)])) _
      refine XS.iconst X14.here hx rfl (hb hby at_30) ?_
      show Steps p.tables e below (T14.setTop (mkF m 31 #[.val (.int p0_), .val (.int (0 : Int32)), .val (.ref w_GRANTED), .unset, .unset, .unset] [(.int (2 : Int32)), (.ref b6), (.ref b6)])) _
      refine XS.bipush X14.here hx rfl (hb hby at_31) ?_
      show Steps p.tables e below (T14.setTop (mkF m 33 #[.val (.int p0_), .val (.int (0 : Int32)), .val (.ref w_GRANTED), .unset, .unset, .unset] [(.int (97 : Int32)), (.int (2 : Int32)), (.ref b6), (.ref b6)])) _
      refine st18 _ ?_
      show Steps p.tables e below (T18.setTop (mkF m 34 #[.val (.int p0_), .val (.int (0 : Int32)), .val (.ref w_GRANTED), .unset, .unset, .unset] [(.ref b6)])) _
      refine XS.dup X18.here hx rfl (hb hby at_34) rfl rfl ?_
      show Steps p.tables e below (T18.setTop (mkF m 35 #[.val (.int p0_), .val (.int (0 : Int32)), .val (.ref w_GRANTED), .unset, .unset, .unset] [(.ref b6), (.ref b6)])) _
      refine XS.iconst X18.here hx rfl (hb hby at_35) ?_
      show Steps p.tables e below (T18.setTop (mkF m 36 #[.val (.int p0_), .val (.int (0 : Int32)), .val (.ref w_GRANTED), .unset, .unset, .unset] [(.int (3 : Int32)), (.ref b6), (.ref b6)])) _
      refine XS.bipush X18.here hx rfl (hb hby at_36) ?_
      show Steps p.tables e below (T18.setTop (mkF m 38 #[.val (.int p0_), .val (.int (0 : Int32)), .val (.ref w_GRANTED), .unset, .unset, .unset] [(.int (110 : Int32)), (.int (3 : Int32)), (.ref b6), (.ref b6)])) _
      refine st22 _ ?_
      show Steps p.tables e below (T22.setTop (mkF m 39 #[.val (.int p0_), .val (.int (0 : Int32)), .val (.ref w_GRANTED), .unset, .unset, .unset] [(.ref b6)])) _
      refine XS.dup X22.here hx rfl (hb hby at_39) rfl rfl ?_
      show Steps p.tables e below (T22.setTop (mkF m 40 #[.val (.int p0_), .val (.int (0 : Int32)), .val (.ref w_GRANTED), .unset, .unset, .unset] [(.ref b6), (.ref b6)])) _
      refine XS.iconst X22.here hx rfl (hb hby at_40) ?_
      show Steps p.tables e below (T22.setTop (mkF m 41 #[.val (.int p0_), .val (.int (0 : Int32)), .val (.ref w_GRANTED), .unset, .unset, .unset] [(.int (4 : Int32)), (.ref b6), (.ref b6)])) _
      refine XS.bipush X22.here hx rfl (hb hby at_41) ?_
      show Steps p.tables e below (T22.setTop (mkF m 43 #[.val (.int p0_), .val (.int (0 : Int32)), .val (.ref w_GRANTED), .unset, .unset, .unset] [(.int (116 : Int32)), (.int (4 : Int32)), (.ref b6), (.ref b6)])) _
      refine st26 _ ?_
      show Steps p.tables e below (T26.setTop (mkF m 44 #[.val (.int p0_), .val (.int (0 : Int32)), .val (.ref w_GRANTED), .unset, .unset, .unset] [(.ref b6)])) _
      refine XS.dup X26.here hx rfl (hb hby at_44) rfl rfl ?_
      show Steps p.tables e below (T26.setTop (mkF m 45 #[.val (.int p0_), .val (.int (0 : Int32)), .val (.ref w_GRANTED), .unset, .unset, .unset] [(.ref b6), (.ref b6)])) _
      refine XS.iconst X26.here hx rfl (hb hby at_45) ?_
      show Steps p.tables e below (T26.setTop (mkF m 46 #[.val (.int p0_), .val (.int (0 : Int32)), .val (.ref w_GRANTED), .unset, .unset, .unset] [(.int (5 : Int32)), (.ref b6), (.ref b6)])) _
      refine XS.bipush X26.here hx rfl (hb hby at_46) ?_
      show Steps p.tables e below (T26.setTop (mkF m 48 #[.val (.int p0_), .val (.int (0 : Int32)), .val (.ref w_GRANTED), .unset, .unset, .unset] [(.int (101 : Int32)), (.int (5 : Int32)), (.ref b6), (.ref b6)])) _
      refine st30 _ ?_
      show Steps p.tables e below (T30.setTop (mkF m 49 #[.val (.int p0_), .val (.int (0 : Int32)), .val (.ref w_GRANTED), .unset, .unset, .unset] [(.ref b6)])) _
      refine XS.dup X30.here hx rfl (hb hby at_49) rfl rfl ?_
      show Steps p.tables e below (T30.setTop (mkF m 50 #[.val (.int p0_), .val (.int (0 : Int32)), .val (.ref w_GRANTED), .unset, .unset, .unset] [(.ref b6), (.ref b6)])) _
      refine XS.bipush X30.here hx rfl (hb hby at_50) ?_
      show Steps p.tables e below (T30.setTop (mkF m 52 #[.val (.int p0_), .val (.int (0 : Int32)), .val (.ref w_GRANTED), .unset, .unset, .unset] [(.int (6 : Int32)), (.ref b6), (.ref b6)])) _
      refine XS.bipush X30.here hx rfl (hb hby at_52) ?_
      show Steps p.tables e below (T30.setTop (mkF m 54 #[.val (.int p0_), .val (.int (0 : Int32)), .val (.ref w_GRANTED), .unset, .unset, .unset] [(.int (100 : Int32)), (.int (6 : Int32)), (.ref b6), (.ref b6)])) _
      refine st34 _ ?_
      show Steps p.tables e below (T34.setTop (mkF m 55 #[.val (.int p0_), .val (.int (0 : Int32)), .val (.ref w_GRANTED), .unset, .unset, .unset] [(.ref b6)])) _
      refine XS.astoreN X34.here hx rfl (hb hby at_55) rfl rfl (l' := #[.val (.int p0_), .val (.int (0 : Int32)), .val (.ref w_GRANTED), .val (.ref b6), .unset, .unset]) rfl ?_
      show Steps p.tables e below (T34.setTop (mkF m 56 #[.val (.int p0_), .val (.int (0 : Int32)), .val (.ref w_GRANTED), .val (.ref b6), .unset, .unset] [])) _
      refine XS.goto X34.here hx rfl (pc0 := 56) (pc' := 151) rfl (hb hby at_56) (by decide) (by decide) ?_
      show Steps p.tables e below (T34.setTop (mkF m 151 #[.val (.int p0_), .val (.int (0 : Int32)), .val (.ref w_GRANTED), .val (.ref b6), .unset, .unset] [])) _
      refine st38 _ ?_
      show Steps p.tables e below (T38.setTop (mkF m 154 #[.val (.int p0_), .val (.int (0 : Int32)), .val (.ref w_GRANTED), .val (.ref b6), .unset, .unset] [(.ref b38)])) _
      refine XS.dup X38.here hx rfl (hb hby at_154) rfl rfl ?_
      show Steps p.tables e below (T38.setTop (mkF m 155 #[.val (.int p0_), .val (.int (0 : Int32)), .val (.ref w_GRANTED), .val (.ref b6), .unset, .unset] [(.ref b38), (.ref b38)])) _
      refine XS.aloadN X38.here hx rfl (hb hby at_155) rfl rfl ?_
      show Steps p.tables e below (T38.setTop (mkF m 156 #[.val (.int p0_), .val (.int (0 : Int32)), .val (.ref w_GRANTED), .val (.ref b6), .unset, .unset] [(.ref b6), (.ref b38), (.ref b38)])) _
      refine st59.trans ?_
      show Steps p.tables e below (T59.setTop (mkF m 159 #[.val (.int p0_), .val (.int (0 : Int32)), .val (.ref w_GRANTED), .val (.ref b6), .unset, .unset] [(.ref b38)])) _
      refine XS.astore X59.here hx rfl (hb hby at_159) rfl rfl (l' := #[.val (.int p0_), .val (.int (0 : Int32)), .val (.ref w_GRANTED), .val (.ref b6), .val (.ref b38), .unset]) rfl ?_
      show Steps p.tables e below (T59.setTop (mkF m 161 #[.val (.int p0_), .val (.int (0 : Int32)), .val (.ref w_GRANTED), .val (.ref b6), .val (.ref b38), .unset] [])) _
      refine XS.aload X59.here hx rfl (hb hby at_161) rfl rfl ?_
      show Steps p.tables e below (T59.setTop (mkF m 163 #[.val (.int p0_), .val (.int (0 : Int32)), .val (.ref w_GRANTED), .val (.ref b6), .val (.ref b38), .unset] [(.ref b38)])) _
      refine st74 _ ?_
      show Steps p.tables e below (T74.setTop (mkF m 166 #[.val (.int p0_), .val (.int (0 : Int32)), .val (.ref w_GRANTED), .val (.ref b6), .val (.ref b38), .unset] [(.ref w_GRANTED)])) _
      refine XS.astore X74.here hx rfl (hb hby at_166) rfl rfl (l' := #[.val (.int p0_), .val (.int (0 : Int32)), .val (.ref w_GRANTED), .val (.ref b6), .val (.ref b38), .val (.ref w_GRANTED)]) rfl ?_
      show Steps p.tables e below (T74.setTop (mkF m 168 #[.val (.int p0_), .val (.int (0 : Int32)), .val (.ref w_GRANTED), .val (.ref b6), .val (.ref b38), .val (.ref w_GRANTED)] [])) _
      refine XS.aload X74.here hx rfl (hb hby at_168) rfl rfl ?_
      show Steps p.tables e below (T74.setTop (mkF m 170 #[.val (.int p0_), .val (.int (0 : Int32)), .val (.ref w_GRANTED), .val (.ref b6), .val (.ref b38), .val (.ref w_GRANTED)] [(.ref w_GRANTED)])) _
      refine XS.aloadN X74.here hx rfl (hb hby at_170) rfl rfl ?_
      show Steps p.tables e below (T74.setTop (mkF m 171 #[.val (.int p0_), .val (.int (0 : Int32)), .val (.ref w_GRANTED), .val (.ref b6), .val (.ref b38), .val (.ref w_GRANTED)] [(.ref w_GRANTED), (.ref w_GRANTED)])) _
      refine Jvm.RoadKit.acmp (g := (mkF m 171 #[.val (.int p0_), .val (.int (0 : Int32)), .val (.ref w_GRANTED), .val (.ref b6), .val (.ref b38), .val (.ref w_GRANTED)] [(.ref w_GRANTED), (.ref w_GRANTED)])) X74 hx rfl rfl rfl (pc0 := 171) (pc' := 174) (same := true) rfl (hb hby at_171) rfl (decide_eq_true rfl) (by decide) (by decide) ?_
      show Steps p.tables e below (T74.setTop (mkF m 174 #[.val (.int p0_), .val (.int (0 : Int32)), .val (.ref w_GRANTED), .val (.ref b6), .val (.ref b38), .val (.ref w_GRANTED)] [])) _
      refine XS.aload X74.here hx rfl (hb hby at_174) rfl rfl ?_
      show Steps p.tables e below (T74.setTop (mkF m 176 #[.val (.int p0_), .val (.int (0 : Int32)), .val (.ref w_GRANTED), .val (.ref b6), .val (.ref b38), .val (.ref w_GRANTED)] [(.ref w_GRANTED)])) _
      refine st77.trans ?_
      show Steps p.tables e below (T77.setTop (mkF m 179 #[.val (.int p0_), .val (.int (0 : Int32)), .val (.ref w_GRANTED), .val (.ref b6), .val (.ref b38), .val (.ref w_GRANTED)] [(.ref v_label_w_GRANTED)])) _
      refine XS.aload X77.here hx rfl (hb hby at_179) rfl rfl ?_
      show Steps p.tables e below (T77.setTop (mkF m 181 #[.val (.int p0_), .val (.int (0 : Int32)), .val (.ref w_GRANTED), .val (.ref b6), .val (.ref b38), .val (.ref w_GRANTED)] [(.ref b38), (.ref v_label_w_GRANTED)])) _
      refine st81.trans ?_
      show Steps p.tables e below (T81.setTop (mkF m 184 #[.val (.int p0_), .val (.int (0 : Int32)), .val (.ref w_GRANTED), .val (.ref b6), .val (.ref b38), .val (.ref w_GRANTED)] [(.int (1 : Int32))])) _
      refine XS.ifNo X81.here hx rfl (hb hby at_184) rfl ((if0 _ _).trans (feq (by decide : ¬ ((1 : Int32) = (0 : Int32)))).1) ?_
      show Steps p.tables e below (T81.setTop (mkF m 187 #[.val (.int p0_), .val (.int (0 : Int32)), .val (.ref w_GRANTED), .val (.ref b6), .val (.ref b38), .val (.ref w_GRANTED)] [])) _
      refine XS.iconst X81.here hx rfl (hb hby at_187) ?_
      show Steps p.tables e below (T81.setTop (mkF m 188 #[.val (.int p0_), .val (.int (0 : Int32)), .val (.ref w_GRANTED), .val (.ref b6), .val (.ref b38), .val (.ref w_GRANTED)] [(.int (1 : Int32))])) _
      refine XS.goto X81.here hx rfl (pc0 := 188) (pc' := 192) rfl (hb hby at_188) (by decide) (by decide) ?_
      exact kt
    obtain ⟨fs, hr, hrun, hended, hW, hsame⟩ := X81.leave (v := some (.int (1 : Int32))) (fun h => by rw [Bd.returns] at h; cases h)
    refine ⟨_, _, pre89 _ (retN X81 hx (t := .boolean) Bd.returns (by simp) (hb hby at_192) hr), hrun, hended, _, _, rfl, ?_, ⟨_, rfl⟩, hW, hsame.mono (by decide) (by decide)⟩
    show QLaw Z p0_ v_value_v_label_w_FAILED v_value_v_label_w_REFUSED v_value_v_label_w_GRANTED v_label_w_FAILED v_label_w_REFUSED v_label_w_GRANTED w_COMPACT_STRINGS w_FAILED w_REFUSED w__VALUES w_GRANTED k_w__VALUES k_v_value_v_label_w_GRANTED k_v_value_v_label_w_REFUSED k_v_value_v_label_w_FAILED h0 n0 _ T81.heap _
    rw [e81']
    exact ⟨rfl, N88⟩
  · have pre91 : ∀ t, Steps p.tables e below (s₁.setTop (mkF m 6 #[.val (.int p0_), .unset, .unset, .unset, .unset, .unset] [(.int (1 : Int32))])) t → Steps p.tables e below (s₁.setTop (entryFrame m #[(.int p0_)] maxLocals)) t := fun t kt => pre1 t (by rw [hv3]; exact kt)
    obtain ⟨T92, X92, e92, st92⟩ := getS2 X0 hx hZ hown (host := "") (Or.inl (hw _ (List.mem_of_getElem? (i := 73) rfl))) Via.refl e0 (P5.ext O0.2) (g := (mkF m 64 #[.val (.int p0_), .val (.int (1 : Int32)), .unset, .unset, .unset, .unset] [])) rfl (hb hby at_64)
    obtain ⟨T93, h93, k93, X93, e93, E93, A93, Z93, st93⟩ := newPE X92 hx hZ (hw _ (List.mem_of_getElem? (i := 4) rfl)) e92 (g := (mkF m 70 #[.val (.int p0_), .val (.int (1 : Int32)), .val (.ref w_REFUSED), .unset, .unset, .unset] [(.int (7 : Int32))])) rfl (hb hby at_70) rfl (by decide) (cap := 7) (by decide) (by decide) (by decide) (by decide) (ad := "[C") (by decide)
    obtain ⟨b93, g93⟩ : ∃ z, z = h0.size := ⟨_, rfl⟩
    rw [← g93] at A93 Z93 st93
    have ge94 : n0 ≤ b93 := Nat.le_trans (Nat.le_trans (Nat.le_of_eq O0.1.symm) O0.2.1) (Nat.le_of_eq g93.symm)
    have sz95 : h0.size ≤ b93 := Nat.le_trans K0.1 (Nat.le_of_eq g93.symm)
    have f96 : Arv Z h93 b93 k93 .char (7 : Int32) [(.int (0 : Int32)), (.int (0 : Int32)), (.int (0 : Int32)), (.int (0 : Int32)), (.int (0 : Int32)), (.int (0 : Int32)), (.int (0 : Int32))] (.int (0 : Int32)) := (Arv.new A93 (by decide)).pad (pad_rep [] (.int (0 : Int32)) 7)
    obtain ⟨c97, r97, q97, s97, z97, y97, G97⟩ := id f96
    have hin97 : ¬ ((0 : Int32) < 0 ∨ c97.slots.size ≤ ((0 : Int32)).toNatClampNeg) := inb_of s97 ⟨by decide, by decide⟩
    obtain ⟨T97, h97, X97, e97, W97, st97⟩ := stC X93 hx hZ e93 r97 (j := (0 : Int32)) hin97 (g := (mkF m 76 #[.val (.int p0_), .val (.int (1 : Int32)), .val (.ref w_REFUSED), .unset, .unset, .unset] [(.int (114 : Int32)), (.int (0 : Int32)), (.ref b93), (.ref b93)])) rfl rfl (hb hby at_76)
    have N98 := Fr.snoc X97 N0 ge94
    have f99 : Arv Z h97 b93 k93 .char (7 : Int32) [(.int ((114 : Int32).toUInt32.toUInt16.toUInt32.toInt32)), (.int (0 : Int32)), (.int (0 : Int32)), (.int (0 : Int32)), (.int (0 : Int32)), (.int (0 : Int32)), (.int (0 : Int32))] (.int (0 : Int32)) := Arv.set r97 q97 s97 z97 y97 G97 (fits_nar_char _) W97 0 rfl (Nat.le_of_ble_eq_true rfl)
    have f100 : Arv Z h97 b93 k93 .char (7 : Int32) [(.int (114 : Int32)), (.int (0 : Int32)), (.int (0 : Int32)), (.int (0 : Int32)), (.int (0 : Int32)), (.int (0 : Int32)), (.int (0 : Int32))] (.int (0 : Int32)) := by have q := f99; exact q
    obtain ⟨c101, r101, q101, s101, z101, y101, G101⟩ := id f100
    have hin101 : ¬ ((1 : Int32) < 0 ∨ c101.slots.size ≤ ((1 : Int32)).toNatClampNeg) := inb_of s101 ⟨by decide, by decide⟩
    obtain ⟨T101, h101, X101, e101, W101, st101⟩ := stC X97 hx hZ e97 r101 (j := (1 : Int32)) hin101 (g := (mkF m 81 #[.val (.int p0_), .val (.int (1 : Int32)), .val (.ref w_REFUSED), .unset, .unset, .unset] [(.int (101 : Int32)), (.int (1 : Int32)), (.ref b93), (.ref b93)])) rfl rfl (hb hby at_81)
    have N102 := Fr.snoc X101 N98 ge94
    have f103 : Arv Z h101 b93 k93 .char (7 : Int32) [(.int (114 : Int32)), (.int ((101 : Int32).toUInt32.toUInt16.toUInt32.toInt32)), (.int (0 : Int32)), (.int (0 : Int32)), (.int (0 : Int32)), (.int (0 : Int32)), (.int (0 : Int32))] (.int (0 : Int32)) := Arv.set r101 q101 s101 z101 y101 G101 (fits_nar_char _) W101 1 rfl (Nat.le_of_ble_eq_true rfl)
    have f104 : Arv Z h101 b93 k93 .char (7 : Int32) [(.int (114 : Int32)), (.int (101 : Int32)), (.int (0 : Int32)), (.int (0 : Int32)), (.int (0 : Int32)), (.int (0 : Int32)), (.int (0 : Int32))] (.int (0 : Int32)) := by have q := f103; exact q
    obtain ⟨c105, r105, q105, s105, z105, y105, G105⟩ := id f104
    have hin105 : ¬ ((2 : Int32) < 0 ∨ c105.slots.size ≤ ((2 : Int32)).toNatClampNeg) := inb_of s105 ⟨by decide, by decide⟩
    obtain ⟨T105, h105, X105, e105, W105, st105⟩ := stC X101 hx hZ e101 r105 (j := (2 : Int32)) hin105 (g := (mkF m 86 #[.val (.int p0_), .val (.int (1 : Int32)), .val (.ref w_REFUSED), .unset, .unset, .unset] [(.int (102 : Int32)), (.int (2 : Int32)), (.ref b93), (.ref b93)])) rfl rfl (hb hby at_86)
    have N106 := Fr.snoc X105 N102 ge94
    have f107 : Arv Z h105 b93 k93 .char (7 : Int32) [(.int (114 : Int32)), (.int (101 : Int32)), (.int ((102 : Int32).toUInt32.toUInt16.toUInt32.toInt32)), (.int (0 : Int32)), (.int (0 : Int32)), (.int (0 : Int32)), (.int (0 : Int32))] (.int (0 : Int32)) := Arv.set r105 q105 s105 z105 y105 G105 (fits_nar_char _) W105 2 rfl (Nat.le_of_ble_eq_true rfl)
    have f108 : Arv Z h105 b93 k93 .char (7 : Int32) [(.int (114 : Int32)), (.int (101 : Int32)), (.int (102 : Int32)), (.int (0 : Int32)), (.int (0 : Int32)), (.int (0 : Int32)), (.int (0 : Int32))] (.int (0 : Int32)) := by have q := f107; exact q
    obtain ⟨c109, r109, q109, s109, z109, y109, G109⟩ := id f108
    have hin109 : ¬ ((3 : Int32) < 0 ∨ c109.slots.size ≤ ((3 : Int32)).toNatClampNeg) := inb_of s109 ⟨by decide, by decide⟩
    obtain ⟨T109, h109, X109, e109, W109, st109⟩ := stC X105 hx hZ e105 r109 (j := (3 : Int32)) hin109 (g := (mkF m 91 #[.val (.int p0_), .val (.int (1 : Int32)), .val (.ref w_REFUSED), .unset, .unset, .unset] [(.int (117 : Int32)), (.int (3 : Int32)), (.ref b93), (.ref b93)])) rfl rfl (hb hby at_91)
    have N110 := Fr.snoc X109 N106 ge94
    have f111 : Arv Z h109 b93 k93 .char (7 : Int32) [(.int (114 : Int32)), (.int (101 : Int32)), (.int (102 : Int32)), (.int ((117 : Int32).toUInt32.toUInt16.toUInt32.toInt32)), (.int (0 : Int32)), (.int (0 : Int32)), (.int (0 : Int32))] (.int (0 : Int32)) := Arv.set r109 q109 s109 z109 y109 G109 (fits_nar_char _) W109 3 rfl (Nat.le_of_ble_eq_true rfl)
    have f112 : Arv Z h109 b93 k93 .char (7 : Int32) [(.int (114 : Int32)), (.int (101 : Int32)), (.int (102 : Int32)), (.int (117 : Int32)), (.int (0 : Int32)), (.int (0 : Int32)), (.int (0 : Int32))] (.int (0 : Int32)) := by have q := f111; exact q
    obtain ⟨c113, r113, q113, s113, z113, y113, G113⟩ := id f112
    have hin113 : ¬ ((4 : Int32) < 0 ∨ c113.slots.size ≤ ((4 : Int32)).toNatClampNeg) := inb_of s113 ⟨by decide, by decide⟩
    obtain ⟨T113, h113, X113, e113, W113, st113⟩ := stC X109 hx hZ e109 r113 (j := (4 : Int32)) hin113 (g := (mkF m 96 #[.val (.int p0_), .val (.int (1 : Int32)), .val (.ref w_REFUSED), .unset, .unset, .unset] [(.int (115 : Int32)), (.int (4 : Int32)), (.ref b93), (.ref b93)])) rfl rfl (hb hby at_96)
    have N114 := Fr.snoc X113 N110 ge94
    have f115 : Arv Z h113 b93 k93 .char (7 : Int32) [(.int (114 : Int32)), (.int (101 : Int32)), (.int (102 : Int32)), (.int (117 : Int32)), (.int ((115 : Int32).toUInt32.toUInt16.toUInt32.toInt32)), (.int (0 : Int32)), (.int (0 : Int32))] (.int (0 : Int32)) := Arv.set r113 q113 s113 z113 y113 G113 (fits_nar_char _) W113 4 rfl (Nat.le_of_ble_eq_true rfl)
    have f116 : Arv Z h113 b93 k93 .char (7 : Int32) [(.int (114 : Int32)), (.int (101 : Int32)), (.int (102 : Int32)), (.int (117 : Int32)), (.int (115 : Int32)), (.int (0 : Int32)), (.int (0 : Int32))] (.int (0 : Int32)) := by have q := f115; exact q
    obtain ⟨c117, r117, q117, s117, z117, y117, G117⟩ := id f116
    have hin117 : ¬ ((5 : Int32) < 0 ∨ c117.slots.size ≤ ((5 : Int32)).toNatClampNeg) := inb_of s117 ⟨by decide, by decide⟩
    obtain ⟨T117, h117, X117, e117, W117, st117⟩ := stC X113 hx hZ e113 r117 (j := (5 : Int32)) hin117 (g := (mkF m 101 #[.val (.int p0_), .val (.int (1 : Int32)), .val (.ref w_REFUSED), .unset, .unset, .unset] [(.int (101 : Int32)), (.int (5 : Int32)), (.ref b93), (.ref b93)])) rfl rfl (hb hby at_101)
    have N118 := Fr.snoc X117 N114 ge94
    have f119 : Arv Z h117 b93 k93 .char (7 : Int32) [(.int (114 : Int32)), (.int (101 : Int32)), (.int (102 : Int32)), (.int (117 : Int32)), (.int (115 : Int32)), (.int ((101 : Int32).toUInt32.toUInt16.toUInt32.toInt32)), (.int (0 : Int32))] (.int (0 : Int32)) := Arv.set r117 q117 s117 z117 y117 G117 (fits_nar_char _) W117 5 rfl (Nat.le_of_ble_eq_true rfl)
    have f120 : Arv Z h117 b93 k93 .char (7 : Int32) [(.int (114 : Int32)), (.int (101 : Int32)), (.int (102 : Int32)), (.int (117 : Int32)), (.int (115 : Int32)), (.int (101 : Int32)), (.int (0 : Int32))] (.int (0 : Int32)) := by have q := f119; exact q
    obtain ⟨c121, r121, q121, s121, z121, y121, G121⟩ := id f120
    have hin121 : ¬ ((6 : Int32) < 0 ∨ c121.slots.size ≤ ((6 : Int32)).toNatClampNeg) := inb_of s121 ⟨by decide, by decide⟩
    obtain ⟨T121, h121, X121, e121, W121, st121⟩ := stC X117 hx hZ e117 r121 (j := (6 : Int32)) hin121 (g := (mkF m 107 #[.val (.int p0_), .val (.int (1 : Int32)), .val (.ref w_REFUSED), .unset, .unset, .unset] [(.int (100 : Int32)), (.int (6 : Int32)), (.ref b93), (.ref b93)])) rfl rfl (hb hby at_107)
    have N122 := Fr.snoc X121 N118 ge94
    have f123 : Arv Z h121 b93 k93 .char (7 : Int32) [(.int (114 : Int32)), (.int (101 : Int32)), (.int (102 : Int32)), (.int (117 : Int32)), (.int (115 : Int32)), (.int (101 : Int32)), (.int ((100 : Int32).toUInt32.toUInt16.toUInt32.toInt32))] (.int (0 : Int32)) := Arv.set r121 q121 s121 z121 y121 G121 (fits_nar_char _) W121 6 rfl (Nat.le_of_ble_eq_true rfl)
    have f124 : Arv Z h121 b93 k93 .char (7 : Int32) [(.int (114 : Int32)), (.int (101 : Int32)), (.int (102 : Int32)), (.int (117 : Int32)), (.int (115 : Int32)), (.int (101 : Int32)), (.int (100 : Int32))] (.int (0 : Int32)) := by have q := f123; exact q
    obtain ⟨T125, h125, X125, e125, E125, A125, D125, -, st125⟩ := newO X121 hx hZ hown (hw _ (List.mem_of_getElem? (i := 5) rfl)) (hw _ (List.mem_of_getElem? (i := 6) rfl)) (hw _ (List.mem_of_getElem? (i := 7) rfl)) e121 (g := (mkF m 151 #[.val (.int p0_), .val (.int (1 : Int32)), .val (.ref w_REFUSED), .val (.ref b93), .unset, .unset] [])) rfl (hb hby at_151) (by decide) (by decide)
    obtain ⟨b125, g125⟩ : ∃ z, z = h121.size := ⟨_, rfl⟩
    rw [← g125] at A125 D125 st125
    have f126 : Old Z n0 h93 := O0.ext E93
    have f127 : Old Z n0 h97 := f126.wr W97 ge94
    have f128 : Old Z n0 h101 := f127.wr W101 ge94
    have f129 : Old Z n0 h105 := f128.wr W105 ge94
    have f130 : Old Z n0 h109 := f129.wr W109 ge94
    have f131 : Old Z n0 h113 := f130.wr W113 ge94
    have f132 : Old Z n0 h117 := f131.wr W117 ge94
    have f133 : Old Z n0 h121 := f132.wr W121 ge94
    have ge134 : n0 ≤ b125 := Nat.le_trans (Nat.le_trans (Nat.le_of_eq f133.1.symm) f133.2.1) (Nat.le_of_eq g125.symm)
    have f135 : Keep h0 h93 [] := K0.ext E93
    have f136 : Keep h0 h97 [] := f135.wr W97 (Or.inr sz95)
    have f137 : Keep h0 h101 [] := f136.wr W101 (Or.inr sz95)
    have f138 : Keep h0 h105 [] := f137.wr W105 (Or.inr sz95)
    have f139 : Keep h0 h109 [] := f138.wr W109 (Or.inr sz95)
    have f140 : Keep h0 h113 [] := f139.wr W113 (Or.inr sz95)
    have f141 : Keep h0 h117 [] := f140.wr W117 (Or.inr sz95)
    have f142 : Keep h0 h121 [] := f141.wr W121 (Or.inr sz95)
    have sz143 : h0.size ≤ b125 := Nat.le_trans f142.1 (Nat.le_of_eq g125.symm)
    have f144 : Fld Z h125 b125 "java/lang/String" "coder" "B" (.int (0 : Int32)) := D125 (Or.inr (hw _ (List.mem_of_getElem? (i := 31) rfl))) (ty := .byte) (by decide)
    have f145 : Fld Z h125 b125 "java/lang/String" "value" "[B" .null := D125 (Or.inr (hw _ (List.mem_of_getElem? (i := 33) rfl))) (ty := (.array .byte)) (by decide)
    have f147 : Arv Z h125 b93 k93 .char (7 : Int32) [(.int (114 : Int32)), (.int (101 : Int32)), (.int (102 : Int32)), (.int (117 : Int32)), (.int (115 : Int32)), (.int (101 : Int32)), (.int (100 : Int32))] (.int (0 : Int32)) := f124.ext E125
    have f148 : Exa Z h97 b93 "[C" := Z93.wr W97
    have f149 : Exa Z h101 b93 "[C" := f148.wr W101
    have f150 : Exa Z h105 b93 "[C" := f149.wr W105
    have f151 : Exa Z h109 b93 "[C" := f150.wr W109
    have f152 : Exa Z h113 b93 "[C" := f151.wr W113
    have f153 : Exa Z h117 b93 "[C" := f152.wr W117
    have f154 : Exa Z h121 b93 "[C" := f153.wr W121
    have f155 : Exa Z h125 b93 "[C" := f154.ext E125
    have f156 : Old Z n0 h125 := f133.ext E125
    obtain ⟨_, _, ⟨T146, L146, k146, n146⟩, -, X146, ⟨Lc146, hQ146, l146, y146, z146⟩, st146⟩ := X125.specialBack hx (y := (⟨"java/lang/String", "<init>", "([C)V"⟩ : MethodName)) rfl hown (mvT hZ (hw _ (List.mem_of_getElem? (i := 8) rfl))) (mvT hZ (hw _ (List.mem_of_getElem? (i := 9) rfl))) (mvT hZ (hw _ (List.mem_of_getElem? (i := 10) rfl))) (by decide) (backOf (W := 1) (rminit14 l Z a0 hw [] b125 b93 k93 w_COMPACT_STRINGS h125 n0 f156 A125 f144 f145 f147 f155 hz_0 P9 ge134) hZ (hw _ (List.mem_of_getElem? (i := 10) rfl)) (hw _ (List.mem_of_getElem? (i := 7) rfl)) (by decide) (by decide)) (g := (mkF m 156 #[.val (.int p0_), .val (.int (1 : Int32)), .val (.ref w_REFUSED), .val (.ref b93), .unset, .unset] [(.ref b93), (.ref b125), (.ref b125)])) rfl (by rw [hml]; rfl) (Steps.refl _) (a := b125) (argsL := [(.ref b93)]) (rest := [(.ref b125)]) (lenOf pd_4 rfl) rfl (by show 2 * 0 + _ ≤ _; exact Nat.le_of_eq rfl) (hb hby at_156) (fun _ _ => ⟨rfl, e125, (by decide : 2 + 1 ≤ _), (by decide : 11 + 7 ≤ _)⟩)
    dsimp only [Pt.U, Pt.locs, Pt.cells, Pt.slots] at X146 l146 y146 z146 st146 hQ146
    subst l146 y146 z146
    obtain ⟨h146, e146⟩ : ∃ z, T146.heap = z := ⟨_, rfl⟩
    rw [e146] at hQ146
    obtain ⟨k1_3_2_146, nnnb1_3_2_146, rfl, N146q, K146, sznnnb1_3_2_146, g146_0, g146_1, g146_2, g146_3, g146_4⟩ := hQ146
    have N157 := Fr.app N122 N146q
    have ge158 : n0 ≤ nnnb1_3_2_146 := Nat.le_trans (Nat.le_trans (Nat.le_of_eq f156.1.symm) f156.2.1) sznnnb1_3_2_146
    have f159 : Keep h0 h125 [] := f142.ext E125
    have sz160 : h0.size ≤ nnnb1_3_2_146 := Nat.le_trans f159.1 sznnnb1_3_2_146
    have f162 : Old Z n0 h146 := f156.keep K146 (allS (ge134) all0)
    obtain ⟨_, _, ⟨T161, L161, k161, n161⟩, -, X161, ⟨Lc161, hQ161, l161, y161, z161⟩, st161⟩ := Jvm.LawKit.callS X146 hx (y := (⟨"com/example/aeacus/aeacus/log/Outcome", "of", "(Ljava/lang/String;)Lcom/example/aeacus/aeacus/log/Outcome;"⟩ : MethodName)) hown (mvT hZ (hw _ (List.mem_of_getElem? (i := 34) rfl))) (mvT hZ (hw _ (List.mem_of_getElem? (i := 35) rfl))) (mvT hZ (hw _ (List.mem_of_getElem? (i := 2) rfl))) (mvT hZ (hw _ (List.mem_of_getElem? (i := 36) rfl))) (by decide) (backOf (W := 0) (rmof20 l Z a0 hw [] b125 nnnb1_3_2_146 k1_3_2_146 w__VALUES k_w__VALUES w_GRANTED w_REFUSED w_FAILED v_label_w_GRANTED v_label_w_REFUSED v_label_w_FAILED v_value_v_label_w_GRANTED v_value_v_label_w_REFUSED v_value_v_label_w_FAILED k_v_value_v_label_w_GRANTED k_v_value_v_label_w_REFUSED k_v_value_v_label_w_FAILED w_COMPACT_STRINGS h146 n0 f162 g146_0 g146_1 g146_2 g146_3 g146_4 P4 P22 P2 P10 P6 P12 P8 P14 P11 P16 P19 P13 P17 P20 P15 P18 P21 P23 P24 P25 P3 hz_0 P9 ge134) hZ (hw _ (List.mem_of_getElem? (i := 36) rfl)) (hw _ (List.mem_of_getElem? (i := 2) rfl)) (by decide) (by decide)) (g := (mkF m 163 #[.val (.int p0_), .val (.int (1 : Int32)), .val (.ref w_REFUSED), .val (.ref b93), .val (.ref b125), .unset] [(.ref b125)])) rfl (by rw [hml]; rfl) (argsL := [(.ref b125)]) (rest := []) (lenOf pd_8 rfl) rfl (by show 2 * 0 + _ ≤ _; exact Nat.le_of_eq rfl) (hb hby at_163) (fun _ _ => ⟨rfl, e146, (by decide : 3 + 1 ≤ _), (by decide : 18 + 3 ≤ _)⟩)
    dsimp only [Pt.U, Pt.locs, Pt.cells, Pt.slots] at X161 l161 y161 z161 st161 hQ161
    subst l161 y161 z161
    obtain ⟨h161, e161⟩ : ∃ z, T161.heap = z := ⟨_, rfl⟩
    rw [e161] at hQ161
    obtain ⟨rfl, N161q, K161⟩ := hQ161
    have N163 := Fr.app N157 N161q
    have f165 : Old Z n0 h161 := f162.keep K161 all0
    have f166 : Exa Z h161 w_REFUSED "com/example/aeacus/aeacus/log/Outcome" := P6.ext f165.2
    obtain ⟨cq164, kq164, q164a, q164b, q164c⟩ := isOf hZ e161 f166
    obtain ⟨_, _, ⟨T164, L164, k164, n164⟩, -, X164, ⟨Lc164, hQ164, l164, y164, z164⟩, st164⟩ := X161.virtualBack hx (y := (⟨"com/example/aeacus/aeacus/log/Outcome", "label", "()Ljava/lang/String;"⟩ : MethodName)) (z := (⟨"com/example/aeacus/aeacus/log/Outcome", "label", "()Ljava/lang/String;"⟩ : MethodName)) hown (mvT hZ (hw _ (List.mem_of_getElem? (i := 66) rfl))) (mvT hZ (hw _ (List.mem_of_getElem? (i := 67) rfl))) (notFace_of_selects (args := #[]) (mvT hZ (hw _ (List.mem_of_getElem? (i := 69) rfl)))) (mvT hZ (hw _ (List.mem_of_getElem? (i := 69) rfl))) (mvT hZ (hw _ (List.mem_of_getElem? (i := 68) rfl))) (by decide) (backOf (W := 0) (rmlabel27 l Z a0 hw [] w_REFUSED v_label_w_REFUSED v_value_v_label_w_REFUSED k_v_value_v_label_w_REFUSED h161 n0 f165 P6 P12 P13 P17 P20 P24) hZ (hw _ (List.mem_of_getElem? (i := 70) rfl)) (hw _ (List.mem_of_getElem? (i := 2) rfl)) (by decide) (by decide)) q164a q164c (g := (mkF m 176 #[.val (.int p0_), .val (.int (1 : Int32)), .val (.ref w_REFUSED), .val (.ref b93), .val (.ref b125), .val (.ref w_REFUSED)] [(.ref w_REFUSED)])) rfl (by rw [hml]; rfl) (Steps.refl _) (argsL := []) (rest := []) (lenOf pd_9 rfl) rfl (by show 2 * 0 + _ ≤ _; exact Nat.le_of_eq rfl) (hb hby at_176) (fun _ _ => ⟨rfl, e161, (by decide : 4 + 0 ≤ _), (by decide : 21 + 0 ≤ _)⟩)
    dsimp only [Pt.U, Pt.locs, Pt.cells, Pt.slots] at X164 l164 y164 z164 st164 hQ164
    subst l164 y164 z164
    obtain ⟨h164, e164⟩ : ∃ z, T164.heap = z := ⟨_, rfl⟩
    rw [e164] at hQ164
    obtain ⟨rfl, N164q, hh164⟩ := hQ164
    have N167 := Fr.app N163 N164q
    have e164' : T164.heap = h161 := e164.trans hh164
    have f169 : Exa Z h161 b125 "java/lang/String" := g146_0.keep K161
    have f170 : Fld Z h161 b125 "java/lang/String" "coder" "B" (.int (0 : Int32)) := g146_1.keep K161 nin0
    have f171 : Fld Z h161 b125 "java/lang/String" "value" "[B" (.ref nnnb1_3_2_146) := g146_2.keep K161 nin0
    have f172 : Arv Z h161 nnnb1_3_2_146 k1_3_2_146 .byte (7 : Int32) [(.int (114 : Int32)), (.int (101 : Int32)), (.int (102 : Int32)), (.int (117 : Int32)), (.int (115 : Int32)), (.int (101 : Int32)), (.int (100 : Int32))] (.int (0 : Int32)) := g146_3.keep K161 nin0
    have f173 : Exa Z h161 nnnb1_3_2_146 "[B" := g146_4.keep K161
    have f174 : Exa Z h161 v_label_w_REFUSED "java/lang/String" := P13.ext f165.2
    obtain ⟨cq168, kq168, q168a, q168b, q168c⟩ := isOf hZ e164' f174
    obtain ⟨_, _, ⟨T168, L168, k168, n168⟩, -, X168, ⟨Lc168, hQ168, l168, y168, z168⟩, st168⟩ := X164.virtualBack hx (y := (⟨"java/lang/String", "equals", "(Ljava/lang/Object;)Z"⟩ : MethodName)) (z := (⟨"java/lang/String", "equals", "(Ljava/lang/Object;)Z"⟩ : MethodName)) hown (mvT hZ (hw _ (List.mem_of_getElem? (i := 71) rfl))) (mvT hZ (hw _ (List.mem_of_getElem? (i := 57) rfl))) (notFace_of_selects (args := #[]) (mvT hZ (hw _ (List.mem_of_getElem? (i := 59) rfl)))) (mvT hZ (hw _ (List.mem_of_getElem? (i := 59) rfl))) (mvT hZ (hw _ (List.mem_of_getElem? (i := 58) rfl))) (by decide) (backOf (W := 0) (rmequals25 l Z a0 hw [] v_label_w_REFUSED b125 v_value_v_label_w_REFUSED nnnb1_3_2_146 k_v_value_v_label_w_REFUSED k1_3_2_146 w_COMPACT_STRINGS h161 n0 f165 P13 P17 P20 f169 f170 f171 P24 f172 f173 ge134 hz_0 P9) hZ (hw _ (List.mem_of_getElem? (i := 60) rfl)) (hw _ (List.mem_of_getElem? (i := 7) rfl)) (by decide) (by decide)) q168a q168c (g := (mkF m 181 #[.val (.int p0_), .val (.int (1 : Int32)), .val (.ref w_REFUSED), .val (.ref b93), .val (.ref b125), .val (.ref w_REFUSED)] [(.ref b125), (.ref v_label_w_REFUSED)])) rfl (by rw [hml]; rfl) (Steps.refl _) (argsL := [(.ref b125)]) (rest := []) (lenOf pd_7 rfl) rfl (by show 2 * 0 + _ ≤ _; exact Nat.le_of_eq rfl) (hb hby at_181) (fun _ _ => ⟨rfl, e164', (by decide : 4 + 0 ≤ _), (by decide : 21 + 0 ≤ _)⟩)
    dsimp only [Pt.U, Pt.locs, Pt.cells, Pt.slots] at X168 l168 y168 z168 st168 hQ168
    subst l168 y168 z168
    obtain ⟨h168, e168⟩ : ∃ z, T168.heap = z := ⟨_, rfl⟩
    rw [e168] at hQ168
    obtain ⟨rfl, N168q, hh168⟩ := hQ168
    have N175 := Fr.app N167 N168q
    have e168' : T168.heap = h161 := e168.trans hh168
    have pre176 : ∀ t, Steps p.tables e below (T168.setTop (mkF m 192 #[.val (.int p0_), .val (.int (1 : Int32)), .val (.ref w_REFUSED), .val (.ref b93), .val (.ref b125), .val (.ref w_REFUSED)] [(.int (1 : Int32))])) t → Steps p.tables e below (s₁.setTop (entryFrame m #[(.int p0_)] maxLocals)) t := by
      intro t kt
      refine pre91 t ?_
      show Steps p.tables e below (s₁.setTop (mkF m 6 #[.val (.int p0_), .unset, .unset, .unset, .unset, .unset] [(.int (1 : Int32))])) _
      refine XS.istoreN X0.here hx rfl (hb hby at_6) rfl (l' := #[.val (.int p0_), .val (.int (1 : Int32)), .unset, .unset, .unset, .unset]) rfl ?_
      show Steps p.tables e below (s₁.setTop (mkF m 7 #[.val (.int p0_), .val (.int (1 : Int32)), .unset, .unset, .unset, .unset] [])) _
      refine XS.iloadN X0.here hx rfl (hb hby at_7) rfl ?_
      show Steps p.tables e below (s₁.setTop (mkF m 8 #[.val (.int p0_), .val (.int (1 : Int32)), .unset, .unset, .unset, .unset] [(.int (1 : Int32))])) _
      refine XS.ifYes X0.here hx rfl (pc0 := 8) (pc' := 59) rfl (hb hby at_8) rfl ((if0 _ _).trans (feq (by decide : ¬ ((1 : Int32) = (0 : Int32)))).2) (by decide) (by decide) ?_
      show Steps p.tables e below (s₁.setTop (mkF m 59 #[.val (.int p0_), .val (.int (1 : Int32)), .unset, .unset, .unset, .unset] [])) _
      refine XS.iloadN X0.here hx rfl (hb hby at_59) rfl ?_
      show Steps p.tables e below (s₁.setTop (mkF m 60 #[.val (.int p0_), .val (.int (1 : Int32)), .unset, .unset, .unset, .unset] [(.int (1 : Int32))])) _
      refine XS.iconst X0.here hx rfl (hb hby at_60) ?_
      show Steps p.tables e below (s₁.setTop (mkF m 61 #[.val (.int p0_), .val (.int (1 : Int32)), .unset, .unset, .unset, .unset] [(.int (1 : Int32)), (.int (1 : Int32))])) _
      refine XS.icmpNo X0.here hx rfl (hb hby at_61) rfl (teq (by decide : (1 : Int32) = (1 : Int32))).2 ?_
      show Steps p.tables e below (s₁.setTop (mkF m 64 #[.val (.int p0_), .val (.int (1 : Int32)), .unset, .unset, .unset, .unset] [])) _
      refine st92 _ ?_
      show Steps p.tables e below (T92.setTop (mkF m 67 #[.val (.int p0_), .val (.int (1 : Int32)), .unset, .unset, .unset, .unset] [(.ref w_REFUSED)])) _
      refine XS.astoreN X92.here hx rfl (hb hby at_67) rfl rfl (l' := #[.val (.int p0_), .val (.int (1 : Int32)), .val (.ref w_REFUSED), .unset, .unset, .unset]) rfl ?_
      show Steps p.tables e below (T92.setTop (mkF m 68 #[.val (.int p0_), .val (.int (1 : Int32)), .val (.ref w_REFUSED), .unset, .unset, .unset] [])) _
      refine XS.bipush X92.here hx rfl (hb hby at_68) ?_
      show Steps p.tables e below (T92.setTop (mkF m 70 #[.val (.int p0_), .val (.int (1 : Int32)), .val (.ref w_REFUSED), .unset, .unset, .unset] [(.int (7 : Int32))])) _
      refine st93 _ ?_
      show Steps p.tables e below (T93.setTop (mkF m 72 #[.val (.int p0_), .val (.int (1 : Int32)), .val (.ref w_REFUSED), .unset, .unset, .unset] [(.ref b93)])) _
      refine XS.dup X93.here hx rfl (hb hby at_72) rfl rfl ?_
      show Steps p.tables e below (T93.setTop (mkF m 73 #[.val (.int p0_), .val (.int (1 : Int32)), .val (.ref w_REFUSED), .unset, .unset, .unset] [(.ref b93), (.ref b93)])) _
      refine XS.iconst X93.here hx rfl (hb hby at_73) ?_
      show Steps p.tables e below (T93.setTop (mkF m 74 #[.val (.int p0_), .val (.int (1 : Int32)), .val (.ref w_REFUSED), .unset, .unset, .unset] [(.int (0 : Int32)), (.ref b93), (.ref b93)])) _
      refine XS.bipush X93.here hx rfl (hb hby at_74) ?_
      show Steps p.tables e below (T93.setTop (mkF m 76 #[.val (.int p0_), .val (.int (1 : Int32)), .val (.ref w_REFUSED), .unset, .unset, .unset] [(.int (114 : Int32)), (.int (0 : Int32)), (.ref b93), (.ref b93)])) _
      refine st97 _ ?_
      show Steps p.tables e below (T97.setTop (mkF m 77 #[.val (.int p0_), .val (.int (1 : Int32)), .val (.ref w_REFUSED), .unset, .unset, .unset] [(.ref b93)])) _
      refine XS.dup X97.here hx rfl (hb hby at_77) rfl rfl ?_
      show Steps p.tables e below (T97.setTop (mkF m 78 #[.val (.int p0_), .val (.int (1 : Int32)), .val (.ref w_REFUSED), .unset, .unset, .unset] [(.ref b93), (.ref b93)])) _
      refine XS.iconst X97.here hx rfl (hb hby at_78) ?_
      show Steps p.tables e below (T97.setTop (mkF m 79 #[.val (.int p0_), .val (.int (1 : Int32)), .val (.ref w_REFUSED), .unset, .unset, .unset] [(.int (1 : Int32)), (.ref b93), (.ref b93)])) _
      refine XS.bipush X97.here hx rfl (hb hby at_79) ?_
      show Steps p.tables e below (T97.setTop (mkF m 81 #[.val (.int p0_), .val (.int (1 : Int32)), .val (.ref w_REFUSED), .unset, .unset, .unset] [(.int (101 : Int32)), (.int (1 : Int32)), (.ref b93), (.ref b93)])) _
      refine st101 _ ?_
      show Steps p.tables e below (T101.setTop (mkF m 82 #[.val (.int p0_), .val (.int (1 : Int32)), .val (.ref w_REFUSED), .unset, .unset, .unset] [(.ref b93)])) _
      refine XS.dup X101.here hx rfl (hb hby at_82) rfl rfl ?_
      show Steps p.tables e below (T101.setTop (mkF m 83 #[.val (.int p0_), .val (.int (1 : Int32)), .val (.ref w_REFUSED), .unset, .unset, .unset] [(.ref b93), (.ref b93)])) _
      refine XS.iconst X101.here hx rfl (hb hby at_83) ?_
      show Steps p.tables e below (T101.setTop (mkF m 84 #[.val (.int p0_), .val (.int (1 : Int32)), .val (.ref w_REFUSED), .unset, .unset, .unset] [(.int (2 : Int32)), (.ref b93), (.ref b93)])) _
      refine XS.bipush X101.here hx rfl (hb hby at_84) ?_
      show Steps p.tables e below (T101.setTop (mkF m 86 #[.val (.int p0_), .val (.int (1 : Int32)), .val (.ref w_REFUSED), .unset, .unset, .unset] [(.int (102 : Int32)), (.int (2 : Int32)), (.ref b93), (.ref b93)])) _
      refine st105 _ ?_
      show Steps p.tables e below (T105.setTop (mkF m 87 #[.val (.int p0_), .val (.int (1 : Int32)), .val (.ref w_REFUSED), .unset, .unset, .unset] [(.ref b93)])) _
      refine XS.dup X105.here hx rfl (hb hby at_87) rfl rfl ?_
      show Steps p.tables e below (T105.setTop (mkF m 88 #[.val (.int p0_), .val (.int (1 : Int32)), .val (.ref w_REFUSED), .unset, .unset, .unset] [(.ref b93), (.ref b93)])) _
      refine XS.iconst X105.here hx rfl (hb hby at_88) ?_
      show Steps p.tables e below (T105.setTop (mkF m 89 #[.val (.int p0_), .val (.int (1 : Int32)), .val (.ref w_REFUSED), .unset, .unset, .unset] [(.int (3 : Int32)), (.ref b93), (.ref b93)])) _
      refine XS.bipush X105.here hx rfl (hb hby at_89) ?_
      show Steps p.tables e below (T105.setTop (mkF m 91 #[.val (.int p0_), .val (.int (1 : Int32)), .val (.ref w_REFUSED), .unset, .unset, .unset] [(.int (117 : Int32)), (.int (3 : Int32)), (.ref b93), (.ref b93)])) _
      refine st109 _ ?_
      show Steps p.tables e below (T109.setTop (mkF m 92 #[.val (.int p0_), .val (.int (1 : Int32)), .val (.ref w_REFUSED), .unset, .unset, .unset] [(.ref b93)])) _
      refine XS.dup X109.here hx rfl (hb hby at_92) rfl rfl ?_
      show Steps p.tables e below (T109.setTop (mkF m 93 #[.val (.int p0_), .val (.int (1 : Int32)), .val (.ref w_REFUSED), .unset, .unset, .unset] [(.ref b93), (.ref b93)])) _
      refine XS.iconst X109.here hx rfl (hb hby at_93) ?_
      show Steps p.tables e below (T109.setTop (mkF m 94 #[.val (.int p0_), .val (.int (1 : Int32)), .val (.ref w_REFUSED), .unset, .unset, .unset] [(.int (4 : Int32)), (.ref b93), (.ref b93)])) _
      refine XS.bipush X109.here hx rfl (hb hby at_94) ?_
      show Steps p.tables e below (T109.setTop (mkF m 96 #[.val (.int p0_), .val (.int (1 : Int32)), .val (.ref w_REFUSED), .unset, .unset, .unset] [(.int (115 : Int32)), (.int (4 : Int32)), (.ref b93), (.ref b93)])) _
      refine st113 _ ?_
      show Steps p.tables e below (T113.setTop (mkF m 97 #[.val (.int p0_), .val (.int (1 : Int32)), .val (.ref w_REFUSED), .unset, .unset, .unset] [(.ref b93)])) _
      refine XS.dup X113.here hx rfl (hb hby at_97) rfl rfl ?_
      show Steps p.tables e below (T113.setTop (mkF m 98 #[.val (.int p0_), .val (.int (1 : Int32)), .val (.ref w_REFUSED), .unset, .unset, .unset] [(.ref b93), (.ref b93)])) _
      refine XS.iconst X113.here hx rfl (hb hby at_98) ?_
      show Steps p.tables e below (T113.setTop (mkF m 99 #[.val (.int p0_), .val (.int (1 : Int32)), .val (.ref w_REFUSED), .unset, .unset, .unset] [(.int (5 : Int32)), (.ref b93), (.ref b93)])) _
      refine XS.bipush X113.here hx rfl (hb hby at_99) ?_
      show Steps p.tables e below (T113.setTop (mkF m 101 #[.val (.int p0_), .val (.int (1 : Int32)), .val (.ref w_REFUSED), .unset, .unset, .unset] [(.int (101 : Int32)), (.int (5 : Int32)), (.ref b93), (.ref b93)])) _
      refine st117 _ ?_
      show Steps p.tables e below (T117.setTop (mkF m 102 #[.val (.int p0_), .val (.int (1 : Int32)), .val (.ref w_REFUSED), .unset, .unset, .unset] [(.ref b93)])) _
      refine XS.dup X117.here hx rfl (hb hby at_102) rfl rfl ?_
      show Steps p.tables e below (T117.setTop (mkF m 103 #[.val (.int p0_), .val (.int (1 : Int32)), .val (.ref w_REFUSED), .unset, .unset, .unset] [(.ref b93), (.ref b93)])) _
      refine XS.bipush X117.here hx rfl (hb hby at_103) ?_
      show Steps p.tables e below (T117.setTop (mkF m 105 #[.val (.int p0_), .val (.int (1 : Int32)), .val (.ref w_REFUSED), .unset, .unset, .unset] [(.int (6 : Int32)), (.ref b93), (.ref b93)])) _
      refine XS.bipush X117.here hx rfl (hb hby at_105) ?_
      show Steps p.tables e below (T117.setTop (mkF m 107 #[.val (.int p0_), .val (.int (1 : Int32)), .val (.ref w_REFUSED), .unset, .unset, .unset] [(.int (100 : Int32)), (.int (6 : Int32)), (.ref b93), (.ref b93)])) _
      refine st121 _ ?_
      show Steps p.tables e below (T121.setTop (mkF m 108 #[.val (.int p0_), .val (.int (1 : Int32)), .val (.ref w_REFUSED), .unset, .unset, .unset] [(.ref b93)])) _
      refine XS.astoreN X121.here hx rfl (hb hby at_108) rfl rfl (l' := #[.val (.int p0_), .val (.int (1 : Int32)), .val (.ref w_REFUSED), .val (.ref b93), .unset, .unset]) rfl ?_
      show Steps p.tables e below (T121.setTop (mkF m 109 #[.val (.int p0_), .val (.int (1 : Int32)), .val (.ref w_REFUSED), .val (.ref b93), .unset, .unset] [])) _
      refine XS.goto X121.here hx rfl (pc0 := 109) (pc' := 151) rfl (hb hby at_109) (by decide) (by decide) ?_
      show Steps p.tables e below (T121.setTop (mkF m 151 #[.val (.int p0_), .val (.int (1 : Int32)), .val (.ref w_REFUSED), .val (.ref b93), .unset, .unset] [])) _
      refine st125 _ ?_
      show Steps p.tables e below (T125.setTop (mkF m 154 #[.val (.int p0_), .val (.int (1 : Int32)), .val (.ref w_REFUSED), .val (.ref b93), .unset, .unset] [(.ref b125)])) _
      refine XS.dup X125.here hx rfl (hb hby at_154) rfl rfl ?_
      show Steps p.tables e below (T125.setTop (mkF m 155 #[.val (.int p0_), .val (.int (1 : Int32)), .val (.ref w_REFUSED), .val (.ref b93), .unset, .unset] [(.ref b125), (.ref b125)])) _
      refine XS.aloadN X125.here hx rfl (hb hby at_155) rfl rfl ?_
      show Steps p.tables e below (T125.setTop (mkF m 156 #[.val (.int p0_), .val (.int (1 : Int32)), .val (.ref w_REFUSED), .val (.ref b93), .unset, .unset] [(.ref b93), (.ref b125), (.ref b125)])) _
      refine st146.trans ?_
      show Steps p.tables e below (T146.setTop (mkF m 159 #[.val (.int p0_), .val (.int (1 : Int32)), .val (.ref w_REFUSED), .val (.ref b93), .unset, .unset] [(.ref b125)])) _
      refine XS.astore X146.here hx rfl (hb hby at_159) rfl rfl (l' := #[.val (.int p0_), .val (.int (1 : Int32)), .val (.ref w_REFUSED), .val (.ref b93), .val (.ref b125), .unset]) rfl ?_
      show Steps p.tables e below (T146.setTop (mkF m 161 #[.val (.int p0_), .val (.int (1 : Int32)), .val (.ref w_REFUSED), .val (.ref b93), .val (.ref b125), .unset] [])) _
      refine XS.aload X146.here hx rfl (hb hby at_161) rfl rfl ?_
      show Steps p.tables e below (T146.setTop (mkF m 163 #[.val (.int p0_), .val (.int (1 : Int32)), .val (.ref w_REFUSED), .val (.ref b93), .val (.ref b125), .unset] [(.ref b125)])) _
      refine st161 _ ?_
      show Steps p.tables e below (T161.setTop (mkF m 166 #[.val (.int p0_), .val (.int (1 : Int32)), .val (.ref w_REFUSED), .val (.ref b93), .val (.ref b125), .unset] [(.ref w_REFUSED)])) _
      refine XS.astore X161.here hx rfl (hb hby at_166) rfl rfl (l' := #[.val (.int p0_), .val (.int (1 : Int32)), .val (.ref w_REFUSED), .val (.ref b93), .val (.ref b125), .val (.ref w_REFUSED)]) rfl ?_
      show Steps p.tables e below (T161.setTop (mkF m 168 #[.val (.int p0_), .val (.int (1 : Int32)), .val (.ref w_REFUSED), .val (.ref b93), .val (.ref b125), .val (.ref w_REFUSED)] [])) _
      refine XS.aload X161.here hx rfl (hb hby at_168) rfl rfl ?_
      show Steps p.tables e below (T161.setTop (mkF m 170 #[.val (.int p0_), .val (.int (1 : Int32)), .val (.ref w_REFUSED), .val (.ref b93), .val (.ref b125), .val (.ref w_REFUSED)] [(.ref w_REFUSED)])) _
      refine XS.aloadN X161.here hx rfl (hb hby at_170) rfl rfl ?_
      show Steps p.tables e below (T161.setTop (mkF m 171 #[.val (.int p0_), .val (.int (1 : Int32)), .val (.ref w_REFUSED), .val (.ref b93), .val (.ref b125), .val (.ref w_REFUSED)] [(.ref w_REFUSED), (.ref w_REFUSED)])) _
      refine Jvm.RoadKit.acmp (g := (mkF m 171 #[.val (.int p0_), .val (.int (1 : Int32)), .val (.ref w_REFUSED), .val (.ref b93), .val (.ref b125), .val (.ref w_REFUSED)] [(.ref w_REFUSED), (.ref w_REFUSED)])) X161 hx rfl rfl rfl (pc0 := 171) (pc' := 174) (same := true) rfl (hb hby at_171) rfl (decide_eq_true rfl) (by decide) (by decide) ?_
      show Steps p.tables e below (T161.setTop (mkF m 174 #[.val (.int p0_), .val (.int (1 : Int32)), .val (.ref w_REFUSED), .val (.ref b93), .val (.ref b125), .val (.ref w_REFUSED)] [])) _
      refine XS.aload X161.here hx rfl (hb hby at_174) rfl rfl ?_
      show Steps p.tables e below (T161.setTop (mkF m 176 #[.val (.int p0_), .val (.int (1 : Int32)), .val (.ref w_REFUSED), .val (.ref b93), .val (.ref b125), .val (.ref w_REFUSED)] [(.ref w_REFUSED)])) _
      refine st164.trans ?_
      show Steps p.tables e below (T164.setTop (mkF m 179 #[.val (.int p0_), .val (.int (1 : Int32)), .val (.ref w_REFUSED), .val (.ref b93), .val (.ref b125), .val (.ref w_REFUSED)] [(.ref v_label_w_REFUSED)])) _
      refine XS.aload X164.here hx rfl (hb hby at_179) rfl rfl ?_
      show Steps p.tables e below (T164.setTop (mkF m 181 #[.val (.int p0_), .val (.int (1 : Int32)), .val (.ref w_REFUSED), .val (.ref b93), .val (.ref b125), .val (.ref w_REFUSED)] [(.ref b125), (.ref v_label_w_REFUSED)])) _
      refine st168.trans ?_
      show Steps p.tables e below (T168.setTop (mkF m 184 #[.val (.int p0_), .val (.int (1 : Int32)), .val (.ref w_REFUSED), .val (.ref b93), .val (.ref b125), .val (.ref w_REFUSED)] [(.int (1 : Int32))])) _
      refine XS.ifNo X168.here hx rfl (hb hby at_184) rfl ((if0 _ _).trans (feq (by decide : ¬ ((1 : Int32) = (0 : Int32)))).1) ?_
      show Steps p.tables e below (T168.setTop (mkF m 187 #[.val (.int p0_), .val (.int (1 : Int32)), .val (.ref w_REFUSED), .val (.ref b93), .val (.ref b125), .val (.ref w_REFUSED)] [])) _
      refine XS.iconst X168.here hx rfl (hb hby at_187) ?_
      show Steps p.tables e below (T168.setTop (mkF m 188 #[.val (.int p0_), .val (.int (1 : Int32)), .val (.ref w_REFUSED), .val (.ref b93), .val (.ref b125), .val (.ref w_REFUSED)] [(.int (1 : Int32))])) _
      refine XS.goto X168.here hx rfl (pc0 := 188) (pc' := 192) rfl (hb hby at_188) (by decide) (by decide) ?_
      exact kt
    obtain ⟨fs, hr, hrun, hended, hW, hsame⟩ := X168.leave (v := some (.int (1 : Int32))) (fun h => by rw [Bd.returns] at h; cases h)
    refine ⟨_, _, pre176 _ (retN X168 hx (t := .boolean) Bd.returns (by simp) (hb hby at_192) hr), hrun, hended, _, _, rfl, ?_, ⟨_, rfl⟩, hW, hsame.mono (by decide) (by decide)⟩
    show QLaw Z p0_ v_value_v_label_w_FAILED v_value_v_label_w_REFUSED v_value_v_label_w_GRANTED v_label_w_FAILED v_label_w_REFUSED v_label_w_GRANTED w_COMPACT_STRINGS w_FAILED w_REFUSED w__VALUES w_GRANTED k_w__VALUES k_v_value_v_label_w_GRANTED k_v_value_v_label_w_REFUSED k_v_value_v_label_w_FAILED h0 n0 _ T168.heap _
    rw [e168']
    exact ⟨rfl, N175⟩
  · have pre178 : ∀ t, Steps p.tables e below (s₁.setTop (mkF m 6 #[.val (.int p0_), .unset, .unset, .unset, .unset, .unset] [(.int (2 : Int32))])) t → Steps p.tables e below (s₁.setTop (entryFrame m #[(.int p0_)] maxLocals)) t := fun t kt => pre1 t (by rw [hv3]; exact kt)
    obtain ⟨T179, X179, e179, st179⟩ := getS2 X0 hx hZ hown (host := "") (Or.inl (hw _ (List.mem_of_getElem? (i := 72) rfl))) Via.refl e0 (P7.ext O0.2) (g := (mkF m 112 #[.val (.int p0_), .val (.int (2 : Int32)), .unset, .unset, .unset, .unset] [])) rfl (hb hby at_112)
    obtain ⟨T180, h180, k180, X180, e180, E180, A180, Z180, st180⟩ := newPE X179 hx hZ (hw _ (List.mem_of_getElem? (i := 4) rfl)) e179 (g := (mkF m 118 #[.val (.int p0_), .val (.int (2 : Int32)), .val (.ref w_FAILED), .unset, .unset, .unset] [(.int (6 : Int32))])) rfl (hb hby at_118) rfl (by decide) (cap := 6) (by decide) (by decide) (by decide) (by decide) (ad := "[C") (by decide)
    obtain ⟨b180, g180⟩ : ∃ z, z = h0.size := ⟨_, rfl⟩
    rw [← g180] at A180 Z180 st180
    have ge181 : n0 ≤ b180 := Nat.le_trans (Nat.le_trans (Nat.le_of_eq O0.1.symm) O0.2.1) (Nat.le_of_eq g180.symm)
    have sz182 : h0.size ≤ b180 := Nat.le_trans K0.1 (Nat.le_of_eq g180.symm)
    have f183 : Arv Z h180 b180 k180 .char (6 : Int32) [(.int (0 : Int32)), (.int (0 : Int32)), (.int (0 : Int32)), (.int (0 : Int32)), (.int (0 : Int32)), (.int (0 : Int32))] (.int (0 : Int32)) := (Arv.new A180 (by decide)).pad (pad_rep [] (.int (0 : Int32)) 6)
    obtain ⟨c184, r184, q184, s184, z184, y184, G184⟩ := id f183
    have hin184 : ¬ ((0 : Int32) < 0 ∨ c184.slots.size ≤ ((0 : Int32)).toNatClampNeg) := inb_of s184 ⟨by decide, by decide⟩
    obtain ⟨T184, h184, X184, e184, W184, st184⟩ := stC X180 hx hZ e180 r184 (j := (0 : Int32)) hin184 (g := (mkF m 124 #[.val (.int p0_), .val (.int (2 : Int32)), .val (.ref w_FAILED), .unset, .unset, .unset] [(.int (102 : Int32)), (.int (0 : Int32)), (.ref b180), (.ref b180)])) rfl rfl (hb hby at_124)
    have N185 := Fr.snoc X184 N0 ge181
    have f186 : Arv Z h184 b180 k180 .char (6 : Int32) [(.int ((102 : Int32).toUInt32.toUInt16.toUInt32.toInt32)), (.int (0 : Int32)), (.int (0 : Int32)), (.int (0 : Int32)), (.int (0 : Int32)), (.int (0 : Int32))] (.int (0 : Int32)) := Arv.set r184 q184 s184 z184 y184 G184 (fits_nar_char _) W184 0 rfl (Nat.le_of_ble_eq_true rfl)
    have f187 : Arv Z h184 b180 k180 .char (6 : Int32) [(.int (102 : Int32)), (.int (0 : Int32)), (.int (0 : Int32)), (.int (0 : Int32)), (.int (0 : Int32)), (.int (0 : Int32))] (.int (0 : Int32)) := by have q := f186; exact q
    obtain ⟨c188, r188, q188, s188, z188, y188, G188⟩ := id f187
    have hin188 : ¬ ((1 : Int32) < 0 ∨ c188.slots.size ≤ ((1 : Int32)).toNatClampNeg) := inb_of s188 ⟨by decide, by decide⟩
    obtain ⟨T188, h188, X188, e188, W188, st188⟩ := stC X184 hx hZ e184 r188 (j := (1 : Int32)) hin188 (g := (mkF m 129 #[.val (.int p0_), .val (.int (2 : Int32)), .val (.ref w_FAILED), .unset, .unset, .unset] [(.int (97 : Int32)), (.int (1 : Int32)), (.ref b180), (.ref b180)])) rfl rfl (hb hby at_129)
    have N189 := Fr.snoc X188 N185 ge181
    have f190 : Arv Z h188 b180 k180 .char (6 : Int32) [(.int (102 : Int32)), (.int ((97 : Int32).toUInt32.toUInt16.toUInt32.toInt32)), (.int (0 : Int32)), (.int (0 : Int32)), (.int (0 : Int32)), (.int (0 : Int32))] (.int (0 : Int32)) := Arv.set r188 q188 s188 z188 y188 G188 (fits_nar_char _) W188 1 rfl (Nat.le_of_ble_eq_true rfl)
    have f191 : Arv Z h188 b180 k180 .char (6 : Int32) [(.int (102 : Int32)), (.int (97 : Int32)), (.int (0 : Int32)), (.int (0 : Int32)), (.int (0 : Int32)), (.int (0 : Int32))] (.int (0 : Int32)) := by have q := f190; exact q
    obtain ⟨c192, r192, q192, s192, z192, y192, G192⟩ := id f191
    have hin192 : ¬ ((2 : Int32) < 0 ∨ c192.slots.size ≤ ((2 : Int32)).toNatClampNeg) := inb_of s192 ⟨by decide, by decide⟩
    obtain ⟨T192, h192, X192, e192, W192, st192⟩ := stC X188 hx hZ e188 r192 (j := (2 : Int32)) hin192 (g := (mkF m 134 #[.val (.int p0_), .val (.int (2 : Int32)), .val (.ref w_FAILED), .unset, .unset, .unset] [(.int (105 : Int32)), (.int (2 : Int32)), (.ref b180), (.ref b180)])) rfl rfl (hb hby at_134)
    have N193 := Fr.snoc X192 N189 ge181
    have f194 : Arv Z h192 b180 k180 .char (6 : Int32) [(.int (102 : Int32)), (.int (97 : Int32)), (.int ((105 : Int32).toUInt32.toUInt16.toUInt32.toInt32)), (.int (0 : Int32)), (.int (0 : Int32)), (.int (0 : Int32))] (.int (0 : Int32)) := Arv.set r192 q192 s192 z192 y192 G192 (fits_nar_char _) W192 2 rfl (Nat.le_of_ble_eq_true rfl)
    have f195 : Arv Z h192 b180 k180 .char (6 : Int32) [(.int (102 : Int32)), (.int (97 : Int32)), (.int (105 : Int32)), (.int (0 : Int32)), (.int (0 : Int32)), (.int (0 : Int32))] (.int (0 : Int32)) := by have q := f194; exact q
    obtain ⟨c196, r196, q196, s196, z196, y196, G196⟩ := id f195
    have hin196 : ¬ ((3 : Int32) < 0 ∨ c196.slots.size ≤ ((3 : Int32)).toNatClampNeg) := inb_of s196 ⟨by decide, by decide⟩
    obtain ⟨T196, h196, X196, e196, W196, st196⟩ := stC X192 hx hZ e192 r196 (j := (3 : Int32)) hin196 (g := (mkF m 139 #[.val (.int p0_), .val (.int (2 : Int32)), .val (.ref w_FAILED), .unset, .unset, .unset] [(.int (108 : Int32)), (.int (3 : Int32)), (.ref b180), (.ref b180)])) rfl rfl (hb hby at_139)
    have N197 := Fr.snoc X196 N193 ge181
    have f198 : Arv Z h196 b180 k180 .char (6 : Int32) [(.int (102 : Int32)), (.int (97 : Int32)), (.int (105 : Int32)), (.int ((108 : Int32).toUInt32.toUInt16.toUInt32.toInt32)), (.int (0 : Int32)), (.int (0 : Int32))] (.int (0 : Int32)) := Arv.set r196 q196 s196 z196 y196 G196 (fits_nar_char _) W196 3 rfl (Nat.le_of_ble_eq_true rfl)
    have f199 : Arv Z h196 b180 k180 .char (6 : Int32) [(.int (102 : Int32)), (.int (97 : Int32)), (.int (105 : Int32)), (.int (108 : Int32)), (.int (0 : Int32)), (.int (0 : Int32))] (.int (0 : Int32)) := by have q := f198; exact q
    obtain ⟨c200, r200, q200, s200, z200, y200, G200⟩ := id f199
    have hin200 : ¬ ((4 : Int32) < 0 ∨ c200.slots.size ≤ ((4 : Int32)).toNatClampNeg) := inb_of s200 ⟨by decide, by decide⟩
    obtain ⟨T200, h200, X200, e200, W200, st200⟩ := stC X196 hx hZ e196 r200 (j := (4 : Int32)) hin200 (g := (mkF m 144 #[.val (.int p0_), .val (.int (2 : Int32)), .val (.ref w_FAILED), .unset, .unset, .unset] [(.int (101 : Int32)), (.int (4 : Int32)), (.ref b180), (.ref b180)])) rfl rfl (hb hby at_144)
    have N201 := Fr.snoc X200 N197 ge181
    have f202 : Arv Z h200 b180 k180 .char (6 : Int32) [(.int (102 : Int32)), (.int (97 : Int32)), (.int (105 : Int32)), (.int (108 : Int32)), (.int ((101 : Int32).toUInt32.toUInt16.toUInt32.toInt32)), (.int (0 : Int32))] (.int (0 : Int32)) := Arv.set r200 q200 s200 z200 y200 G200 (fits_nar_char _) W200 4 rfl (Nat.le_of_ble_eq_true rfl)
    have f203 : Arv Z h200 b180 k180 .char (6 : Int32) [(.int (102 : Int32)), (.int (97 : Int32)), (.int (105 : Int32)), (.int (108 : Int32)), (.int (101 : Int32)), (.int (0 : Int32))] (.int (0 : Int32)) := by have q := f202; exact q
    obtain ⟨c204, r204, q204, s204, z204, y204, G204⟩ := id f203
    have hin204 : ¬ ((5 : Int32) < 0 ∨ c204.slots.size ≤ ((5 : Int32)).toNatClampNeg) := inb_of s204 ⟨by decide, by decide⟩
    obtain ⟨T204, h204, X204, e204, W204, st204⟩ := stC X200 hx hZ e200 r204 (j := (5 : Int32)) hin204 (g := (mkF m 149 #[.val (.int p0_), .val (.int (2 : Int32)), .val (.ref w_FAILED), .unset, .unset, .unset] [(.int (100 : Int32)), (.int (5 : Int32)), (.ref b180), (.ref b180)])) rfl rfl (hb hby at_149)
    have N205 := Fr.snoc X204 N201 ge181
    have f206 : Arv Z h204 b180 k180 .char (6 : Int32) [(.int (102 : Int32)), (.int (97 : Int32)), (.int (105 : Int32)), (.int (108 : Int32)), (.int (101 : Int32)), (.int ((100 : Int32).toUInt32.toUInt16.toUInt32.toInt32))] (.int (0 : Int32)) := Arv.set r204 q204 s204 z204 y204 G204 (fits_nar_char _) W204 5 rfl (Nat.le_of_ble_eq_true rfl)
    have f207 : Arv Z h204 b180 k180 .char (6 : Int32) [(.int (102 : Int32)), (.int (97 : Int32)), (.int (105 : Int32)), (.int (108 : Int32)), (.int (101 : Int32)), (.int (100 : Int32))] (.int (0 : Int32)) := by have q := f206; exact q
    obtain ⟨T208, h208, X208, e208, E208, A208, D208, -, st208⟩ := newO X204 hx hZ hown (hw _ (List.mem_of_getElem? (i := 5) rfl)) (hw _ (List.mem_of_getElem? (i := 6) rfl)) (hw _ (List.mem_of_getElem? (i := 7) rfl)) e204 (g := (mkF m 151 #[.val (.int p0_), .val (.int (2 : Int32)), .val (.ref w_FAILED), .val (.ref b180), .unset, .unset] [])) rfl (hb hby at_151) (by decide) (by decide)
    obtain ⟨b208, g208⟩ : ∃ z, z = h204.size := ⟨_, rfl⟩
    rw [← g208] at A208 D208 st208
    have f209 : Old Z n0 h180 := O0.ext E180
    have f210 : Old Z n0 h184 := f209.wr W184 ge181
    have f211 : Old Z n0 h188 := f210.wr W188 ge181
    have f212 : Old Z n0 h192 := f211.wr W192 ge181
    have f213 : Old Z n0 h196 := f212.wr W196 ge181
    have f214 : Old Z n0 h200 := f213.wr W200 ge181
    have f215 : Old Z n0 h204 := f214.wr W204 ge181
    have ge216 : n0 ≤ b208 := Nat.le_trans (Nat.le_trans (Nat.le_of_eq f215.1.symm) f215.2.1) (Nat.le_of_eq g208.symm)
    have f217 : Keep h0 h180 [] := K0.ext E180
    have f218 : Keep h0 h184 [] := f217.wr W184 (Or.inr sz182)
    have f219 : Keep h0 h188 [] := f218.wr W188 (Or.inr sz182)
    have f220 : Keep h0 h192 [] := f219.wr W192 (Or.inr sz182)
    have f221 : Keep h0 h196 [] := f220.wr W196 (Or.inr sz182)
    have f222 : Keep h0 h200 [] := f221.wr W200 (Or.inr sz182)
    have f223 : Keep h0 h204 [] := f222.wr W204 (Or.inr sz182)
    have sz224 : h0.size ≤ b208 := Nat.le_trans f223.1 (Nat.le_of_eq g208.symm)
    have f225 : Fld Z h208 b208 "java/lang/String" "coder" "B" (.int (0 : Int32)) := D208 (Or.inr (hw _ (List.mem_of_getElem? (i := 31) rfl))) (ty := .byte) (by decide)
    have f226 : Fld Z h208 b208 "java/lang/String" "value" "[B" .null := D208 (Or.inr (hw _ (List.mem_of_getElem? (i := 33) rfl))) (ty := (.array .byte)) (by decide)
    have f228 : Arv Z h208 b180 k180 .char (6 : Int32) [(.int (102 : Int32)), (.int (97 : Int32)), (.int (105 : Int32)), (.int (108 : Int32)), (.int (101 : Int32)), (.int (100 : Int32))] (.int (0 : Int32)) := f207.ext E208
    have f229 : Exa Z h184 b180 "[C" := Z180.wr W184
    have f230 : Exa Z h188 b180 "[C" := f229.wr W188
    have f231 : Exa Z h192 b180 "[C" := f230.wr W192
    have f232 : Exa Z h196 b180 "[C" := f231.wr W196
    have f233 : Exa Z h200 b180 "[C" := f232.wr W200
    have f234 : Exa Z h204 b180 "[C" := f233.wr W204
    have f235 : Exa Z h208 b180 "[C" := f234.ext E208
    have f236 : Old Z n0 h208 := f215.ext E208
    obtain ⟨_, _, ⟨T227, L227, k227, n227⟩, -, X227, ⟨Lc227, hQ227, l227, y227, z227⟩, st227⟩ := X208.specialBack hx (y := (⟨"java/lang/String", "<init>", "([C)V"⟩ : MethodName)) rfl hown (mvT hZ (hw _ (List.mem_of_getElem? (i := 8) rfl))) (mvT hZ (hw _ (List.mem_of_getElem? (i := 9) rfl))) (mvT hZ (hw _ (List.mem_of_getElem? (i := 10) rfl))) (by decide) (backOf (W := 1) (rminit28 l Z a0 hw [] b208 b180 k180 w_COMPACT_STRINGS h208 n0 f236 A208 f225 f226 f228 f235 hz_0 P9 ge216) hZ (hw _ (List.mem_of_getElem? (i := 10) rfl)) (hw _ (List.mem_of_getElem? (i := 7) rfl)) (by decide) (by decide)) (g := (mkF m 156 #[.val (.int p0_), .val (.int (2 : Int32)), .val (.ref w_FAILED), .val (.ref b180), .unset, .unset] [(.ref b180), (.ref b208), (.ref b208)])) rfl (by rw [hml]; rfl) (Steps.refl _) (a := b208) (argsL := [(.ref b180)]) (rest := [(.ref b208)]) (lenOf pd_4 rfl) rfl (by show 2 * 0 + _ ≤ _; exact Nat.le_of_eq rfl) (hb hby at_156) (fun _ _ => ⟨rfl, e208, (by decide : 2 + 1 ≤ _), (by decide : 10 + 6 ≤ _)⟩)
    dsimp only [Pt.U, Pt.locs, Pt.cells, Pt.slots] at X227 l227 y227 z227 st227 hQ227
    subst l227 y227 z227
    obtain ⟨h227, e227⟩ : ∃ z, T227.heap = z := ⟨_, rfl⟩
    rw [e227] at hQ227
    obtain ⟨k1_3_2_227, nnnb1_3_2_227, rfl, N227q, K227, sznnnb1_3_2_227, g227_0, g227_1, g227_2, g227_3, g227_4⟩ := hQ227
    have N237 := Fr.app N205 N227q
    have ge238 : n0 ≤ nnnb1_3_2_227 := Nat.le_trans (Nat.le_trans (Nat.le_of_eq f236.1.symm) f236.2.1) sznnnb1_3_2_227
    have f239 : Keep h0 h208 [] := f223.ext E208
    have sz240 : h0.size ≤ nnnb1_3_2_227 := Nat.le_trans f239.1 sznnnb1_3_2_227
    have f242 : Old Z n0 h227 := f236.keep K227 (allS (ge216) all0)
    obtain ⟨_, _, ⟨T241, L241, k241, n241⟩, -, X241, ⟨Lc241, hQ241, l241, y241, z241⟩, st241⟩ := Jvm.LawKit.callS X227 hx (y := (⟨"com/example/aeacus/aeacus/log/Outcome", "of", "(Ljava/lang/String;)Lcom/example/aeacus/aeacus/log/Outcome;"⟩ : MethodName)) hown (mvT hZ (hw _ (List.mem_of_getElem? (i := 34) rfl))) (mvT hZ (hw _ (List.mem_of_getElem? (i := 35) rfl))) (mvT hZ (hw _ (List.mem_of_getElem? (i := 2) rfl))) (mvT hZ (hw _ (List.mem_of_getElem? (i := 36) rfl))) (by decide) (backOf (W := 0) (rmof34 l Z a0 hw [] b208 nnnb1_3_2_227 k1_3_2_227 w__VALUES k_w__VALUES w_GRANTED w_REFUSED w_FAILED v_label_w_GRANTED v_label_w_REFUSED v_label_w_FAILED v_value_v_label_w_GRANTED v_value_v_label_w_REFUSED v_value_v_label_w_FAILED k_v_value_v_label_w_GRANTED k_v_value_v_label_w_REFUSED k_v_value_v_label_w_FAILED w_COMPACT_STRINGS h227 n0 f242 g227_0 g227_1 g227_2 g227_3 g227_4 P4 P22 P2 P10 P6 P12 P8 P14 P11 P16 P19 P13 P17 P20 P15 P18 P21 P23 P24 P25 P3 hz_0 P9 ge216) hZ (hw _ (List.mem_of_getElem? (i := 36) rfl)) (hw _ (List.mem_of_getElem? (i := 2) rfl)) (by decide) (by decide)) (g := (mkF m 163 #[.val (.int p0_), .val (.int (2 : Int32)), .val (.ref w_FAILED), .val (.ref b180), .val (.ref b208), .unset] [(.ref b208)])) rfl (by rw [hml]; rfl) (argsL := [(.ref b208)]) (rest := []) (lenOf pd_8 rfl) rfl (by show 2 * 0 + _ ≤ _; exact Nat.le_of_eq rfl) (hb hby at_163) (fun _ _ => ⟨rfl, e227, (by decide : 3 + 1 ≤ _), (by decide : 16 + 3 ≤ _)⟩)
    dsimp only [Pt.U, Pt.locs, Pt.cells, Pt.slots] at X241 l241 y241 z241 st241 hQ241
    subst l241 y241 z241
    obtain ⟨h241, e241⟩ : ∃ z, T241.heap = z := ⟨_, rfl⟩
    rw [e241] at hQ241
    obtain ⟨rfl, N241q, K241⟩ := hQ241
    have N243 := Fr.app N237 N241q
    have f245 : Old Z n0 h241 := f242.keep K241 all0
    have f246 : Exa Z h241 w_FAILED "com/example/aeacus/aeacus/log/Outcome" := P8.ext f245.2
    obtain ⟨cq244, kq244, q244a, q244b, q244c⟩ := isOf hZ e241 f246
    obtain ⟨_, _, ⟨T244, L244, k244, n244⟩, -, X244, ⟨Lc244, hQ244, l244, y244, z244⟩, st244⟩ := X241.virtualBack hx (y := (⟨"com/example/aeacus/aeacus/log/Outcome", "label", "()Ljava/lang/String;"⟩ : MethodName)) (z := (⟨"com/example/aeacus/aeacus/log/Outcome", "label", "()Ljava/lang/String;"⟩ : MethodName)) hown (mvT hZ (hw _ (List.mem_of_getElem? (i := 66) rfl))) (mvT hZ (hw _ (List.mem_of_getElem? (i := 67) rfl))) (notFace_of_selects (args := #[]) (mvT hZ (hw _ (List.mem_of_getElem? (i := 69) rfl)))) (mvT hZ (hw _ (List.mem_of_getElem? (i := 69) rfl))) (mvT hZ (hw _ (List.mem_of_getElem? (i := 68) rfl))) (by decide) (backOf (W := 0) (rmlabel43 l Z a0 hw [] w_FAILED v_label_w_FAILED v_value_v_label_w_FAILED k_v_value_v_label_w_FAILED h241 n0 f245 P8 P14 P15 P18 P21 P25) hZ (hw _ (List.mem_of_getElem? (i := 70) rfl)) (hw _ (List.mem_of_getElem? (i := 2) rfl)) (by decide) (by decide)) q244a q244c (g := (mkF m 176 #[.val (.int p0_), .val (.int (2 : Int32)), .val (.ref w_FAILED), .val (.ref b180), .val (.ref b208), .val (.ref w_FAILED)] [(.ref w_FAILED)])) rfl (by rw [hml]; rfl) (Steps.refl _) (argsL := []) (rest := []) (lenOf pd_9 rfl) rfl (by show 2 * 0 + _ ≤ _; exact Nat.le_of_eq rfl) (hb hby at_176) (fun _ _ => ⟨rfl, e241, (by decide : 4 + 0 ≤ _), (by decide : 19 + 0 ≤ _)⟩)
    dsimp only [Pt.U, Pt.locs, Pt.cells, Pt.slots] at X244 l244 y244 z244 st244 hQ244
    subst l244 y244 z244
    obtain ⟨h244, e244⟩ : ∃ z, T244.heap = z := ⟨_, rfl⟩
    rw [e244] at hQ244
    obtain ⟨rfl, N244q, hh244⟩ := hQ244
    have N247 := Fr.app N243 N244q
    have e244' : T244.heap = h241 := e244.trans hh244
    have f249 : Exa Z h241 b208 "java/lang/String" := g227_0.keep K241
    have f250 : Fld Z h241 b208 "java/lang/String" "coder" "B" (.int (0 : Int32)) := g227_1.keep K241 nin0
    have f251 : Fld Z h241 b208 "java/lang/String" "value" "[B" (.ref nnnb1_3_2_227) := g227_2.keep K241 nin0
    have f252 : Arv Z h241 nnnb1_3_2_227 k1_3_2_227 .byte (6 : Int32) [(.int (102 : Int32)), (.int (97 : Int32)), (.int (105 : Int32)), (.int (108 : Int32)), (.int (101 : Int32)), (.int (100 : Int32))] (.int (0 : Int32)) := g227_3.keep K241 nin0
    have f253 : Exa Z h241 nnnb1_3_2_227 "[B" := g227_4.keep K241
    have f254 : Exa Z h241 v_label_w_FAILED "java/lang/String" := P15.ext f245.2
    obtain ⟨cq248, kq248, q248a, q248b, q248c⟩ := isOf hZ e244' f254
    obtain ⟨_, _, ⟨T248, L248, k248, n248⟩, -, X248, ⟨Lc248, hQ248, l248, y248, z248⟩, st248⟩ := X244.virtualBack hx (y := (⟨"java/lang/String", "equals", "(Ljava/lang/Object;)Z"⟩ : MethodName)) (z := (⟨"java/lang/String", "equals", "(Ljava/lang/Object;)Z"⟩ : MethodName)) hown (mvT hZ (hw _ (List.mem_of_getElem? (i := 71) rfl))) (mvT hZ (hw _ (List.mem_of_getElem? (i := 57) rfl))) (notFace_of_selects (args := #[]) (mvT hZ (hw _ (List.mem_of_getElem? (i := 59) rfl)))) (mvT hZ (hw _ (List.mem_of_getElem? (i := 59) rfl))) (mvT hZ (hw _ (List.mem_of_getElem? (i := 58) rfl))) (by decide) (backOf (W := 0) (rmequals41 l Z a0 hw [] v_label_w_FAILED b208 v_value_v_label_w_FAILED nnnb1_3_2_227 k_v_value_v_label_w_FAILED k1_3_2_227 w_COMPACT_STRINGS h241 n0 f245 P15 P18 P21 f249 f250 f251 P25 f252 f253 ge216 hz_0 P9) hZ (hw _ (List.mem_of_getElem? (i := 60) rfl)) (hw _ (List.mem_of_getElem? (i := 7) rfl)) (by decide) (by decide)) q248a q248c (g := (mkF m 181 #[.val (.int p0_), .val (.int (2 : Int32)), .val (.ref w_FAILED), .val (.ref b180), .val (.ref b208), .val (.ref w_FAILED)] [(.ref b208), (.ref v_label_w_FAILED)])) rfl (by rw [hml]; rfl) (Steps.refl _) (argsL := [(.ref b208)]) (rest := []) (lenOf pd_7 rfl) rfl (by show 2 * 0 + _ ≤ _; exact Nat.le_of_eq rfl) (hb hby at_181) (fun _ _ => ⟨rfl, e244', (by decide : 4 + 0 ≤ _), (by decide : 19 + 0 ≤ _)⟩)
    dsimp only [Pt.U, Pt.locs, Pt.cells, Pt.slots] at X248 l248 y248 z248 st248 hQ248
    subst l248 y248 z248
    obtain ⟨h248, e248⟩ : ∃ z, T248.heap = z := ⟨_, rfl⟩
    rw [e248] at hQ248
    obtain ⟨rfl, N248q, hh248⟩ := hQ248
    have N255 := Fr.app N247 N248q
    have e248' : T248.heap = h241 := e248.trans hh248
    have pre256 : ∀ t, Steps p.tables e below (T248.setTop (mkF m 192 #[.val (.int p0_), .val (.int (2 : Int32)), .val (.ref w_FAILED), .val (.ref b180), .val (.ref b208), .val (.ref w_FAILED)] [(.int (1 : Int32))])) t → Steps p.tables e below (s₁.setTop (entryFrame m #[(.int p0_)] maxLocals)) t := by
      intro t kt
      refine pre178 t ?_
      show Steps p.tables e below (s₁.setTop (mkF m 6 #[.val (.int p0_), .unset, .unset, .unset, .unset, .unset] [(.int (2 : Int32))])) _
      refine XS.istoreN X0.here hx rfl (hb hby at_6) rfl (l' := #[.val (.int p0_), .val (.int (2 : Int32)), .unset, .unset, .unset, .unset]) rfl ?_
      show Steps p.tables e below (s₁.setTop (mkF m 7 #[.val (.int p0_), .val (.int (2 : Int32)), .unset, .unset, .unset, .unset] [])) _
      refine XS.iloadN X0.here hx rfl (hb hby at_7) rfl ?_
      show Steps p.tables e below (s₁.setTop (mkF m 8 #[.val (.int p0_), .val (.int (2 : Int32)), .unset, .unset, .unset, .unset] [(.int (2 : Int32))])) _
      refine XS.ifYes X0.here hx rfl (pc0 := 8) (pc' := 59) rfl (hb hby at_8) rfl ((if0 _ _).trans (feq (by decide : ¬ ((2 : Int32) = (0 : Int32)))).2) (by decide) (by decide) ?_
      show Steps p.tables e below (s₁.setTop (mkF m 59 #[.val (.int p0_), .val (.int (2 : Int32)), .unset, .unset, .unset, .unset] [])) _
      refine XS.iloadN X0.here hx rfl (hb hby at_59) rfl ?_
      show Steps p.tables e below (s₁.setTop (mkF m 60 #[.val (.int p0_), .val (.int (2 : Int32)), .unset, .unset, .unset, .unset] [(.int (2 : Int32))])) _
      refine XS.iconst X0.here hx rfl (hb hby at_60) ?_
      show Steps p.tables e below (s₁.setTop (mkF m 61 #[.val (.int p0_), .val (.int (2 : Int32)), .unset, .unset, .unset, .unset] [(.int (1 : Int32)), (.int (2 : Int32))])) _
      refine XS.icmpYes X0.here hx rfl (pc0 := 61) (pc' := 112) rfl (hb hby at_61) rfl (feq (by decide : ¬ ((2 : Int32) = (1 : Int32)))).2 (by decide) (by decide) ?_
      show Steps p.tables e below (s₁.setTop (mkF m 112 #[.val (.int p0_), .val (.int (2 : Int32)), .unset, .unset, .unset, .unset] [])) _
      refine st179 _ ?_
      show Steps p.tables e below (T179.setTop (mkF m 115 #[.val (.int p0_), .val (.int (2 : Int32)), .unset, .unset, .unset, .unset] [(.ref w_FAILED)])) _
      refine XS.astoreN X179.here hx rfl (hb hby at_115) rfl rfl (l' := #[.val (.int p0_), .val (.int (2 : Int32)), .val (.ref w_FAILED), .unset, .unset, .unset]) rfl ?_
      show Steps p.tables e below (T179.setTop (mkF m 116 #[.val (.int p0_), .val (.int (2 : Int32)), .val (.ref w_FAILED), .unset, .unset, .unset] [])) _
      refine XS.bipush X179.here hx rfl (hb hby at_116) ?_
      show Steps p.tables e below (T179.setTop (mkF m 118 #[.val (.int p0_), .val (.int (2 : Int32)), .val (.ref w_FAILED), .unset, .unset, .unset] [(.int (6 : Int32))])) _
      refine st180 _ ?_
      show Steps p.tables e below (T180.setTop (mkF m 120 #[.val (.int p0_), .val (.int (2 : Int32)), .val (.ref w_FAILED), .unset, .unset, .unset] [(.ref b180)])) _
      refine XS.dup X180.here hx rfl (hb hby at_120) rfl rfl ?_
      show Steps p.tables e below (T180.setTop (mkF m 121 #[.val (.int p0_), .val (.int (2 : Int32)), .val (.ref w_FAILED), .unset, .unset, .unset] [(.ref b180), (.ref b180)])) _
      refine XS.iconst X180.here hx rfl (hb hby at_121) ?_
      show Steps p.tables e below (T180.setTop (mkF m 122 #[.val (.int p0_), .val (.int (2 : Int32)), .val (.ref w_FAILED), .unset, .unset, .unset] [(.int (0 : Int32)), (.ref b180), (.ref b180)])) _
      refine XS.bipush X180.here hx rfl (hb hby at_122) ?_
      show Steps p.tables e below (T180.setTop (mkF m 124 #[.val (.int p0_), .val (.int (2 : Int32)), .val (.ref w_FAILED), .unset, .unset, .unset] [(.int (102 : Int32)), (.int (0 : Int32)), (.ref b180), (.ref b180)])) _
      refine st184 _ ?_
      show Steps p.tables e below (T184.setTop (mkF m 125 #[.val (.int p0_), .val (.int (2 : Int32)), .val (.ref w_FAILED), .unset, .unset, .unset] [(.ref b180)])) _
      refine XS.dup X184.here hx rfl (hb hby at_125) rfl rfl ?_
      show Steps p.tables e below (T184.setTop (mkF m 126 #[.val (.int p0_), .val (.int (2 : Int32)), .val (.ref w_FAILED), .unset, .unset, .unset] [(.ref b180), (.ref b180)])) _
      refine XS.iconst X184.here hx rfl (hb hby at_126) ?_
      show Steps p.tables e below (T184.setTop (mkF m 127 #[.val (.int p0_), .val (.int (2 : Int32)), .val (.ref w_FAILED), .unset, .unset, .unset] [(.int (1 : Int32)), (.ref b180), (.ref b180)])) _
      refine XS.bipush X184.here hx rfl (hb hby at_127) ?_
      show Steps p.tables e below (T184.setTop (mkF m 129 #[.val (.int p0_), .val (.int (2 : Int32)), .val (.ref w_FAILED), .unset, .unset, .unset] [(.int (97 : Int32)), (.int (1 : Int32)), (.ref b180), (.ref b180)])) _
      refine st188 _ ?_
      show Steps p.tables e below (T188.setTop (mkF m 130 #[.val (.int p0_), .val (.int (2 : Int32)), .val (.ref w_FAILED), .unset, .unset, .unset] [(.ref b180)])) _
      refine XS.dup X188.here hx rfl (hb hby at_130) rfl rfl ?_
      show Steps p.tables e below (T188.setTop (mkF m 131 #[.val (.int p0_), .val (.int (2 : Int32)), .val (.ref w_FAILED), .unset, .unset, .unset] [(.ref b180), (.ref b180)])) _
      refine XS.iconst X188.here hx rfl (hb hby at_131) ?_
      show Steps p.tables e below (T188.setTop (mkF m 132 #[.val (.int p0_), .val (.int (2 : Int32)), .val (.ref w_FAILED), .unset, .unset, .unset] [(.int (2 : Int32)), (.ref b180), (.ref b180)])) _
      refine XS.bipush X188.here hx rfl (hb hby at_132) ?_
      show Steps p.tables e below (T188.setTop (mkF m 134 #[.val (.int p0_), .val (.int (2 : Int32)), .val (.ref w_FAILED), .unset, .unset, .unset] [(.int (105 : Int32)), (.int (2 : Int32)), (.ref b180), (.ref b180)])) _
      refine st192 _ ?_
      show Steps p.tables e below (T192.setTop (mkF m 135 #[.val (.int p0_), .val (.int (2 : Int32)), .val (.ref w_FAILED), .unset, .unset, .unset] [(.ref b180)])) _
      refine XS.dup X192.here hx rfl (hb hby at_135) rfl rfl ?_
      show Steps p.tables e below (T192.setTop (mkF m 136 #[.val (.int p0_), .val (.int (2 : Int32)), .val (.ref w_FAILED), .unset, .unset, .unset] [(.ref b180), (.ref b180)])) _
      refine XS.iconst X192.here hx rfl (hb hby at_136) ?_
      show Steps p.tables e below (T192.setTop (mkF m 137 #[.val (.int p0_), .val (.int (2 : Int32)), .val (.ref w_FAILED), .unset, .unset, .unset] [(.int (3 : Int32)), (.ref b180), (.ref b180)])) _
      refine XS.bipush X192.here hx rfl (hb hby at_137) ?_
      show Steps p.tables e below (T192.setTop (mkF m 139 #[.val (.int p0_), .val (.int (2 : Int32)), .val (.ref w_FAILED), .unset, .unset, .unset] [(.int (108 : Int32)), (.int (3 : Int32)), (.ref b180), (.ref b180)])) _
      refine st196 _ ?_
      show Steps p.tables e below (T196.setTop (mkF m 140 #[.val (.int p0_), .val (.int (2 : Int32)), .val (.ref w_FAILED), .unset, .unset, .unset] [(.ref b180)])) _
      refine XS.dup X196.here hx rfl (hb hby at_140) rfl rfl ?_
      show Steps p.tables e below (T196.setTop (mkF m 141 #[.val (.int p0_), .val (.int (2 : Int32)), .val (.ref w_FAILED), .unset, .unset, .unset] [(.ref b180), (.ref b180)])) _
      refine XS.iconst X196.here hx rfl (hb hby at_141) ?_
      show Steps p.tables e below (T196.setTop (mkF m 142 #[.val (.int p0_), .val (.int (2 : Int32)), .val (.ref w_FAILED), .unset, .unset, .unset] [(.int (4 : Int32)), (.ref b180), (.ref b180)])) _
      refine XS.bipush X196.here hx rfl (hb hby at_142) ?_
      show Steps p.tables e below (T196.setTop (mkF m 144 #[.val (.int p0_), .val (.int (2 : Int32)), .val (.ref w_FAILED), .unset, .unset, .unset] [(.int (101 : Int32)), (.int (4 : Int32)), (.ref b180), (.ref b180)])) _
      refine st200 _ ?_
      show Steps p.tables e below (T200.setTop (mkF m 145 #[.val (.int p0_), .val (.int (2 : Int32)), .val (.ref w_FAILED), .unset, .unset, .unset] [(.ref b180)])) _
      refine XS.dup X200.here hx rfl (hb hby at_145) rfl rfl ?_
      show Steps p.tables e below (T200.setTop (mkF m 146 #[.val (.int p0_), .val (.int (2 : Int32)), .val (.ref w_FAILED), .unset, .unset, .unset] [(.ref b180), (.ref b180)])) _
      refine XS.iconst X200.here hx rfl (hb hby at_146) ?_
      show Steps p.tables e below (T200.setTop (mkF m 147 #[.val (.int p0_), .val (.int (2 : Int32)), .val (.ref w_FAILED), .unset, .unset, .unset] [(.int (5 : Int32)), (.ref b180), (.ref b180)])) _
      refine XS.bipush X200.here hx rfl (hb hby at_147) ?_
      show Steps p.tables e below (T200.setTop (mkF m 149 #[.val (.int p0_), .val (.int (2 : Int32)), .val (.ref w_FAILED), .unset, .unset, .unset] [(.int (100 : Int32)), (.int (5 : Int32)), (.ref b180), (.ref b180)])) _
      refine st204 _ ?_
      show Steps p.tables e below (T204.setTop (mkF m 150 #[.val (.int p0_), .val (.int (2 : Int32)), .val (.ref w_FAILED), .unset, .unset, .unset] [(.ref b180)])) _
      refine XS.astoreN X204.here hx rfl (hb hby at_150) rfl rfl (l' := #[.val (.int p0_), .val (.int (2 : Int32)), .val (.ref w_FAILED), .val (.ref b180), .unset, .unset]) rfl ?_
      show Steps p.tables e below (T204.setTop (mkF m 151 #[.val (.int p0_), .val (.int (2 : Int32)), .val (.ref w_FAILED), .val (.ref b180), .unset, .unset] [])) _
      refine st208 _ ?_
      show Steps p.tables e below (T208.setTop (mkF m 154 #[.val (.int p0_), .val (.int (2 : Int32)), .val (.ref w_FAILED), .val (.ref b180), .unset, .unset] [(.ref b208)])) _
      refine XS.dup X208.here hx rfl (hb hby at_154) rfl rfl ?_
      show Steps p.tables e below (T208.setTop (mkF m 155 #[.val (.int p0_), .val (.int (2 : Int32)), .val (.ref w_FAILED), .val (.ref b180), .unset, .unset] [(.ref b208), (.ref b208)])) _
      refine XS.aloadN X208.here hx rfl (hb hby at_155) rfl rfl ?_
      show Steps p.tables e below (T208.setTop (mkF m 156 #[.val (.int p0_), .val (.int (2 : Int32)), .val (.ref w_FAILED), .val (.ref b180), .unset, .unset] [(.ref b180), (.ref b208), (.ref b208)])) _
      refine st227.trans ?_
      show Steps p.tables e below (T227.setTop (mkF m 159 #[.val (.int p0_), .val (.int (2 : Int32)), .val (.ref w_FAILED), .val (.ref b180), .unset, .unset] [(.ref b208)])) _
      refine XS.astore X227.here hx rfl (hb hby at_159) rfl rfl (l' := #[.val (.int p0_), .val (.int (2 : Int32)), .val (.ref w_FAILED), .val (.ref b180), .val (.ref b208), .unset]) rfl ?_
      show Steps p.tables e below (T227.setTop (mkF m 161 #[.val (.int p0_), .val (.int (2 : Int32)), .val (.ref w_FAILED), .val (.ref b180), .val (.ref b208), .unset] [])) _
      refine XS.aload X227.here hx rfl (hb hby at_161) rfl rfl ?_
      show Steps p.tables e below (T227.setTop (mkF m 163 #[.val (.int p0_), .val (.int (2 : Int32)), .val (.ref w_FAILED), .val (.ref b180), .val (.ref b208), .unset] [(.ref b208)])) _
      refine st241 _ ?_
      show Steps p.tables e below (T241.setTop (mkF m 166 #[.val (.int p0_), .val (.int (2 : Int32)), .val (.ref w_FAILED), .val (.ref b180), .val (.ref b208), .unset] [(.ref w_FAILED)])) _
      refine XS.astore X241.here hx rfl (hb hby at_166) rfl rfl (l' := #[.val (.int p0_), .val (.int (2 : Int32)), .val (.ref w_FAILED), .val (.ref b180), .val (.ref b208), .val (.ref w_FAILED)]) rfl ?_
      show Steps p.tables e below (T241.setTop (mkF m 168 #[.val (.int p0_), .val (.int (2 : Int32)), .val (.ref w_FAILED), .val (.ref b180), .val (.ref b208), .val (.ref w_FAILED)] [])) _
      refine XS.aload X241.here hx rfl (hb hby at_168) rfl rfl ?_
      show Steps p.tables e below (T241.setTop (mkF m 170 #[.val (.int p0_), .val (.int (2 : Int32)), .val (.ref w_FAILED), .val (.ref b180), .val (.ref b208), .val (.ref w_FAILED)] [(.ref w_FAILED)])) _
      refine XS.aloadN X241.here hx rfl (hb hby at_170) rfl rfl ?_
      show Steps p.tables e below (T241.setTop (mkF m 171 #[.val (.int p0_), .val (.int (2 : Int32)), .val (.ref w_FAILED), .val (.ref b180), .val (.ref b208), .val (.ref w_FAILED)] [(.ref w_FAILED), (.ref w_FAILED)])) _
      refine Jvm.RoadKit.acmp (g := (mkF m 171 #[.val (.int p0_), .val (.int (2 : Int32)), .val (.ref w_FAILED), .val (.ref b180), .val (.ref b208), .val (.ref w_FAILED)] [(.ref w_FAILED), (.ref w_FAILED)])) X241 hx rfl rfl rfl (pc0 := 171) (pc' := 174) (same := true) rfl (hb hby at_171) rfl (decide_eq_true rfl) (by decide) (by decide) ?_
      show Steps p.tables e below (T241.setTop (mkF m 174 #[.val (.int p0_), .val (.int (2 : Int32)), .val (.ref w_FAILED), .val (.ref b180), .val (.ref b208), .val (.ref w_FAILED)] [])) _
      refine XS.aload X241.here hx rfl (hb hby at_174) rfl rfl ?_
      show Steps p.tables e below (T241.setTop (mkF m 176 #[.val (.int p0_), .val (.int (2 : Int32)), .val (.ref w_FAILED), .val (.ref b180), .val (.ref b208), .val (.ref w_FAILED)] [(.ref w_FAILED)])) _
      refine st244.trans ?_
      show Steps p.tables e below (T244.setTop (mkF m 179 #[.val (.int p0_), .val (.int (2 : Int32)), .val (.ref w_FAILED), .val (.ref b180), .val (.ref b208), .val (.ref w_FAILED)] [(.ref v_label_w_FAILED)])) _
      refine XS.aload X244.here hx rfl (hb hby at_179) rfl rfl ?_
      show Steps p.tables e below (T244.setTop (mkF m 181 #[.val (.int p0_), .val (.int (2 : Int32)), .val (.ref w_FAILED), .val (.ref b180), .val (.ref b208), .val (.ref w_FAILED)] [(.ref b208), (.ref v_label_w_FAILED)])) _
      refine st248.trans ?_
      show Steps p.tables e below (T248.setTop (mkF m 184 #[.val (.int p0_), .val (.int (2 : Int32)), .val (.ref w_FAILED), .val (.ref b180), .val (.ref b208), .val (.ref w_FAILED)] [(.int (1 : Int32))])) _
      refine XS.ifNo X248.here hx rfl (hb hby at_184) rfl ((if0 _ _).trans (feq (by decide : ¬ ((1 : Int32) = (0 : Int32)))).1) ?_
      show Steps p.tables e below (T248.setTop (mkF m 187 #[.val (.int p0_), .val (.int (2 : Int32)), .val (.ref w_FAILED), .val (.ref b180), .val (.ref b208), .val (.ref w_FAILED)] [])) _
      refine XS.iconst X248.here hx rfl (hb hby at_187) ?_
      show Steps p.tables e below (T248.setTop (mkF m 188 #[.val (.int p0_), .val (.int (2 : Int32)), .val (.ref w_FAILED), .val (.ref b180), .val (.ref b208), .val (.ref w_FAILED)] [(.int (1 : Int32))])) _
      refine XS.goto X248.here hx rfl (pc0 := 188) (pc' := 192) rfl (hb hby at_188) (by decide) (by decide) ?_
      exact kt
    obtain ⟨fs, hr, hrun, hended, hW, hsame⟩ := X248.leave (v := some (.int (1 : Int32))) (fun h => by rw [Bd.returns] at h; cases h)
    refine ⟨_, _, pre256 _ (retN X248 hx (t := .boolean) Bd.returns (by simp) (hb hby at_192) hr), hrun, hended, _, _, rfl, ?_, ⟨_, rfl⟩, hW, hsame.mono (by decide) (by decide)⟩
    show QLaw Z p0_ v_value_v_label_w_FAILED v_value_v_label_w_REFUSED v_value_v_label_w_GRANTED v_label_w_FAILED v_label_w_REFUSED v_label_w_GRANTED w_COMPACT_STRINGS w_FAILED w_REFUSED w__VALUES w_GRANTED k_w__VALUES k_v_value_v_label_w_GRANTED k_v_value_v_label_w_REFUSED k_v_value_v_label_w_FAILED h0 n0 _ T248.heap _
    rw [e248']
    exact ⟨rfl, N255⟩
set_option maxRecDepth 65536 in
set_option maxHeartbeats 40000000 in
theorem comes_1 {Post : Tables → Env → Array Value → State → Outcome → State → Prop} (hpost : ∀ tb e args s v u, (limb_1_1.after args s (.returned v) u = true ∧ limb_1_2.after args s (.returned v) u = true ∧ True) → FrameEnd s (.returned v) u (Jvm.fieldLocs frame_1_writes args s ++ Jvm.arrayLocs frame_1_arrays args s ++ Jvm.staticLocs frame_1_statics s) 16 128 → Post tb e args s (.returned v) u) :
    ArmFor flags0 classFile x code maxLocals ret World_1 tables_1 room_1 Calls_1 rest_1 Pre_1 Post := by
  intro l hfl _ _ p e ha hc hk s m args below hf hA hF happ hP
  obtain ⟨hcalls, hrest, hpre⟩ := hP
  obtain ⟨-, -, -, hnamed, -, -, -, hat⟩ := (Spec.applies_iff hf).mp happ
  obtain ⟨hg, hn⟩ := and_e (Cond.before_iff.mp (show (Jvm.Cond.and given_1 narrow_1).before args s = true from hpre))
  obtain ⟨g1, g2⟩ := and_e hg
  obtain ⟨w0, rfl⟩ : ∃ w0 : Value, args = #[w0] := by
    have hs : args.size = 1 := by simpa [Cond.value, given_1] using g1
    obtain ⟨L⟩ := args
    match L, hs with
    | [w0], _ => exact ⟨w0, rfl⟩
  have hw := fun d (hd : d ∈ tables_1) => atoms_spec (ws := Jvm.Cond.code x code maxLocals ret :: tables_1) hat d (List.mem_cons_of_mem _ hd)
  have hfit : Fit s := fun {y c} hc i hi => by
    obtain ⟨ha, rfl⟩ := Array.getElem?_eq_some_iff.mp hc
    have q := List.all_eq_true.mp ((Array.all_eq_true_iff_forall_mem.mp hF) _ (Array.getElem_mem ha)) i (List.mem_range.mpr hi)
    simpa [Array.getElem?_eq_getElem hi] using q
  obtain ⟨i0, ei0⟩ := is_v g2
  obtain rfl : w0 = (.int i0) := Option.some.inj ei0
  obtain ⟨g3, g4⟩ := and_e hn
  obtain ⟨g5, g6⟩ := and_e g4
  obtain ⟨g7, g8⟩ := and_e g6
  obtain ⟨g9, g10⟩ := and_e g8
  obtain ⟨g11, g12⟩ := and_e g10
  obtain ⟨g13, g14⟩ := and_e g12
  obtain ⟨g15, g16⟩ := and_e g14
  obtain ⟨g17, g18⟩ := and_e g16
  obtain ⟨g19, g20⟩ := and_e g18
  obtain ⟨g21, g22⟩ := and_e g20
  obtain ⟨g23, g24⟩ := and_e g22
  obtain ⟨g25, g26⟩ := and_e g24
  obtain ⟨g27, g28⟩ := and_e g26
  obtain ⟨g29, g30⟩ := and_e g28
  obtain ⟨g31, g32⟩ := and_e g30
  obtain ⟨g33, g34⟩ := and_e g32
  obtain ⟨g35, g36⟩ := and_e g34
  obtain ⟨g37, g38⟩ := and_e g36
  obtain ⟨g39, g40⟩ := and_e g38
  obtain ⟨g41, g42⟩ := and_e g40
  obtain ⟨g43, g44⟩ := and_e g42
  obtain ⟨g45, g46⟩ := and_e g44
  obtain ⟨g47, g48⟩ := and_e g46
  obtain ⟨g49, g50⟩ := and_e g48
  obtain ⟨g51, g52⟩ := and_e g50
  obtain ⟨g53, g54⟩ := and_e g52
  obtain ⟨g55, g56⟩ := and_e g54
  obtain ⟨g57, g58⟩ := and_e g56
  obtain ⟨g59, g60⟩ := and_e g58
  obtain ⟨g61, g62⟩ := and_e g60
  obtain ⟨g63, g64⟩ := and_e g62
  obtain ⟨g65, g66⟩ := and_e g64
  obtain ⟨g67, g68⟩ := and_e g66
  obtain ⟨g69, g70⟩ := and_e g68
  obtain ⟨g71, g72⟩ := and_e g70
  obtain ⟨g73, g74⟩ := and_e g72
  obtain ⟨g75, g76⟩ := and_e g74
  obtain ⟨g77, g78⟩ := and_e g76
  obtain ⟨g79, g80⟩ := and_e g78
  obtain ⟨g81, g82⟩ := and_e g80
  have hr0 := Cond.before_iff.mp (show rest_1_c.before _ s = true from hrest)
  obtain ⟨g83, g84⟩ := and_e hr0
  obtain ⟨g85, g86⟩ := and_e g84
  obtain ⟨g87, g88⟩ := and_e g86
  obtain ⟨g89, g90⟩ := and_e g88
  obtain ⟨g91, g92⟩ := and_e g90
  obtain ⟨g93, g94⟩ := and_e g92
  obtain ⟨g95, g96⟩ := and_e g94
  obtain ⟨g97, g98⟩ := and_e g96
  obtain ⟨g99, g100⟩ := and_e g98
  obtain ⟨w_GRANTED, ev_w_GRANTED⟩ := exa_v g3
  have S_w_GRANTED := Sta.start ev_w_GRANTED (Or.inr ⟨(hw _ (List.mem_of_getElem? (i := 2) rfl)), (hw _ (List.mem_of_getElem? (i := 3) rfl))⟩)
  have E_w_GRANTED := Exa.start ev_w_GRANTED g3
  obtain ⟨w__VALUES, ev_w__VALUES⟩ := arr_v g5
  have S_w__VALUES := Sta.start ev_w__VALUES (Or.inl (hw _ (List.mem_of_getElem? (i := 51) rfl)))
  obtain ⟨c_w__VALUES, A_w__VALUES⟩ := Arr.start ev_w__VALUES g5
  have E_w__VALUES := Exa.start ev_w__VALUES g7
  obtain ⟨w_REFUSED, ev_w_REFUSED⟩ := exa_v g13
  have S_w_REFUSED := Sta.start ev_w_REFUSED (Or.inr ⟨(hw _ (List.mem_of_getElem? (i := 2) rfl)), (hw _ (List.mem_of_getElem? (i := 49) rfl))⟩)
  have E_w_REFUSED := Exa.start ev_w_REFUSED g13
  obtain ⟨w_FAILED, ev_w_FAILED⟩ := exa_v g17
  have S_w_FAILED := Sta.start ev_w_FAILED (Or.inr ⟨(hw _ (List.mem_of_getElem? (i := 2) rfl)), (hw _ (List.mem_of_getElem? (i := 50) rfl))⟩)
  have E_w_FAILED := Exa.start ev_w_FAILED g17
  obtain ⟨w_COMPACT_STRINGS, ev_w_COMPACT_STRINGS⟩ := is_v g85
  have S_w_COMPACT_STRINGS := Sta.start ev_w_COMPACT_STRINGS (Or.inl (Cond.before_iff.mpr g83))
  obtain ⟨v_label_w_GRANTED, ev_v_label_w_GRANTED⟩ := exa_v g21
  have F_v_label_w_GRANTED := Fld.start ((fld_at ev_w_GRANTED).symm.trans ev_v_label_w_GRANTED)
  have E_v_label_w_GRANTED := Exa.start ev_v_label_w_GRANTED g21
  obtain ⟨v_label_w_REFUSED, ev_v_label_w_REFUSED⟩ := exa_v g29
  have F_v_label_w_REFUSED := Fld.start ((fld_at ev_w_REFUSED).symm.trans ev_v_label_w_REFUSED)
  have E_v_label_w_REFUSED := Exa.start ev_v_label_w_REFUSED g29
  obtain ⟨v_label_w_FAILED, ev_v_label_w_FAILED⟩ := exa_v g37
  have F_v_label_w_FAILED := Fld.start ((fld_at ev_w_FAILED).symm.trans ev_v_label_w_FAILED)
  have E_v_label_w_FAILED := Exa.start ev_v_label_w_FAILED g37
  obtain ⟨v_value_v_label_w_GRANTED, ev_v_value_v_label_w_GRANTED⟩ := arr_v g25
  have F_v_value_v_label_w_GRANTED := Fld.start ((fld_at ev_v_label_w_GRANTED).symm.trans ev_v_value_v_label_w_GRANTED)
  obtain ⟨c_v_value_v_label_w_GRANTED, A_v_value_v_label_w_GRANTED⟩ := Arr.start ev_v_value_v_label_w_GRANTED g25
  obtain ⟨v_value_v_label_w_REFUSED, ev_v_value_v_label_w_REFUSED⟩ := arr_v g33
  have F_v_value_v_label_w_REFUSED := Fld.start ((fld_at ev_v_label_w_REFUSED).symm.trans ev_v_value_v_label_w_REFUSED)
  obtain ⟨c_v_value_v_label_w_REFUSED, A_v_value_v_label_w_REFUSED⟩ := Arr.start ev_v_value_v_label_w_REFUSED g33
  obtain ⟨v_value_v_label_w_FAILED, ev_v_value_v_label_w_FAILED⟩ := arr_v g41
  have F_v_value_v_label_w_FAILED := Fld.start ((fld_at ev_v_label_w_FAILED).symm.trans ev_v_value_v_label_w_FAILED)
  obtain ⟨c_v_value_v_label_w_FAILED, A_v_value_v_label_w_FAILED⟩ := Arr.start ev_v_value_v_label_w_FAILED g41
  have Ln_w__VALUES := own_len g9 ev_w__VALUES A_w__VALUES
  have El_w__VALUES_0 := (elem_in (own_eqr g11 ev_w_GRANTED) ev_w__VALUES (Term.int_eval (0)) A_w__VALUES.1).2
  have El_w__VALUES_1 := (elem_in (own_eqr g15 ev_w_REFUSED) ev_w__VALUES (Term.int_eval (1)) A_w__VALUES.1).2
  have El_w__VALUES_2 := (elem_in (own_eqr g19 ev_w_FAILED) ev_w__VALUES (Term.int_eval (2)) A_w__VALUES.1).2
  have F_coder_v_label_w_GRANTED := Fld.start ((fld_at ev_v_label_w_GRANTED).symm.trans (own_eqi g23))
  have F_coder_v_label_w_REFUSED := Fld.start ((fld_at ev_v_label_w_REFUSED).symm.trans (own_eqi g31))
  have F_coder_v_label_w_FAILED := Fld.start ((fld_at ev_v_label_w_FAILED).symm.trans (own_eqi g39))
  have Ln_v_value_v_label_w_GRANTED := own_len g27 ev_v_value_v_label_w_GRANTED A_v_value_v_label_w_GRANTED
  have Ln_v_value_v_label_w_REFUSED := own_len g35 ev_v_value_v_label_w_REFUSED A_v_value_v_label_w_REFUSED
  have Ln_v_value_v_label_w_FAILED := own_len g43 ev_v_value_v_label_w_FAILED A_v_value_v_label_w_FAILED
  have El_v_value_v_label_w_GRANTED_0 := (elem_in (own_eqi g45) ev_v_value_v_label_w_GRANTED (Term.int_eval (0)) A_v_value_v_label_w_GRANTED.1).2
  have El_v_value_v_label_w_GRANTED_1 := (elem_in (own_eqi g47) ev_v_value_v_label_w_GRANTED (Term.int_eval (1)) A_v_value_v_label_w_GRANTED.1).2
  have El_v_value_v_label_w_GRANTED_2 := (elem_in (own_eqi g49) ev_v_value_v_label_w_GRANTED (Term.int_eval (2)) A_v_value_v_label_w_GRANTED.1).2
  have El_v_value_v_label_w_GRANTED_3 := (elem_in (own_eqi g51) ev_v_value_v_label_w_GRANTED (Term.int_eval (3)) A_v_value_v_label_w_GRANTED.1).2
  have El_v_value_v_label_w_GRANTED_4 := (elem_in (own_eqi g53) ev_v_value_v_label_w_GRANTED (Term.int_eval (4)) A_v_value_v_label_w_GRANTED.1).2
  have El_v_value_v_label_w_GRANTED_5 := (elem_in (own_eqi g55) ev_v_value_v_label_w_GRANTED (Term.int_eval (5)) A_v_value_v_label_w_GRANTED.1).2
  have El_v_value_v_label_w_GRANTED_6 := (elem_in (own_eqi g57) ev_v_value_v_label_w_GRANTED (Term.int_eval (6)) A_v_value_v_label_w_GRANTED.1).2
  have El_v_value_v_label_w_REFUSED_0 := (elem_in (own_eqi g59) ev_v_value_v_label_w_REFUSED (Term.int_eval (0)) A_v_value_v_label_w_REFUSED.1).2
  have El_v_value_v_label_w_REFUSED_1 := (elem_in (own_eqi g61) ev_v_value_v_label_w_REFUSED (Term.int_eval (1)) A_v_value_v_label_w_REFUSED.1).2
  have El_v_value_v_label_w_REFUSED_2 := (elem_in (own_eqi g63) ev_v_value_v_label_w_REFUSED (Term.int_eval (2)) A_v_value_v_label_w_REFUSED.1).2
  have El_v_value_v_label_w_REFUSED_3 := (elem_in (own_eqi g65) ev_v_value_v_label_w_REFUSED (Term.int_eval (3)) A_v_value_v_label_w_REFUSED.1).2
  have El_v_value_v_label_w_REFUSED_4 := (elem_in (own_eqi g67) ev_v_value_v_label_w_REFUSED (Term.int_eval (4)) A_v_value_v_label_w_REFUSED.1).2
  have El_v_value_v_label_w_REFUSED_5 := (elem_in (own_eqi g69) ev_v_value_v_label_w_REFUSED (Term.int_eval (5)) A_v_value_v_label_w_REFUSED.1).2
  have El_v_value_v_label_w_REFUSED_6 := (elem_in (own_eqi g71) ev_v_value_v_label_w_REFUSED (Term.int_eval (6)) A_v_value_v_label_w_REFUSED.1).2
  have El_v_value_v_label_w_FAILED_0 := (elem_in (own_eqi g73) ev_v_value_v_label_w_FAILED (Term.int_eval (0)) A_v_value_v_label_w_FAILED.1).2
  have El_v_value_v_label_w_FAILED_1 := (elem_in (own_eqi g75) ev_v_value_v_label_w_FAILED (Term.int_eval (1)) A_v_value_v_label_w_FAILED.1).2
  have El_v_value_v_label_w_FAILED_2 := (elem_in (own_eqi g77) ev_v_value_v_label_w_FAILED (Term.int_eval (2)) A_v_value_v_label_w_FAILED.1).2
  have El_v_value_v_label_w_FAILED_3 := (elem_in (own_eqi g79) ev_v_value_v_label_w_FAILED (Term.int_eval (3)) A_v_value_v_label_w_FAILED.1).2
  have El_v_value_v_label_w_FAILED_4 := (elem_in (own_eqi g81) ev_v_value_v_label_w_FAILED (Term.int_eval (4)) A_v_value_v_label_w_FAILED.1).2
  have El_v_value_v_label_w_FAILED_5 := (elem_in (own_eqi g82) ev_v_value_v_label_w_FAILED (Term.int_eval (5)) A_v_value_v_label_w_FAILED.1).2
  have V_w__VALUES : Arv s s.heap w__VALUES c_w__VALUES.cls (.object "com/example/aeacus/aeacus/log/Outcome") (3 : Int32) [(.ref w_GRANTED), (.ref w_REFUSED), (.ref w_FAILED)] .null := Arv.start hfit A_w__VALUES Ln_w__VALUES.1 Ln_w__VALUES.2 (by decide) rfl ⟨El_w__VALUES_0, El_w__VALUES_1, El_w__VALUES_2, trivial⟩
  have V_v_value_v_label_w_GRANTED : Arv s s.heap v_value_v_label_w_GRANTED c_v_value_v_label_w_GRANTED.cls .byte (7 : Int32) [(.int (103 : Int32)), (.int (114 : Int32)), (.int (97 : Int32)), (.int (110 : Int32)), (.int (116 : Int32)), (.int (101 : Int32)), (.int (100 : Int32))] (.int (0 : Int32)) := Arv.start hfit A_v_value_v_label_w_GRANTED Ln_v_value_v_label_w_GRANTED.1 Ln_v_value_v_label_w_GRANTED.2 (by decide) rfl ⟨El_v_value_v_label_w_GRANTED_0, El_v_value_v_label_w_GRANTED_1, El_v_value_v_label_w_GRANTED_2, El_v_value_v_label_w_GRANTED_3, El_v_value_v_label_w_GRANTED_4, El_v_value_v_label_w_GRANTED_5, El_v_value_v_label_w_GRANTED_6, trivial⟩
  have V_v_value_v_label_w_REFUSED : Arv s s.heap v_value_v_label_w_REFUSED c_v_value_v_label_w_REFUSED.cls .byte (7 : Int32) [(.int (114 : Int32)), (.int (101 : Int32)), (.int (102 : Int32)), (.int (117 : Int32)), (.int (115 : Int32)), (.int (101 : Int32)), (.int (100 : Int32))] (.int (0 : Int32)) := Arv.start hfit A_v_value_v_label_w_REFUSED Ln_v_value_v_label_w_REFUSED.1 Ln_v_value_v_label_w_REFUSED.2 (by decide) rfl ⟨El_v_value_v_label_w_REFUSED_0, El_v_value_v_label_w_REFUSED_1, El_v_value_v_label_w_REFUSED_2, El_v_value_v_label_w_REFUSED_3, El_v_value_v_label_w_REFUSED_4, El_v_value_v_label_w_REFUSED_5, El_v_value_v_label_w_REFUSED_6, trivial⟩
  have V_v_value_v_label_w_FAILED : Arv s s.heap v_value_v_label_w_FAILED c_v_value_v_label_w_FAILED.cls .byte (6 : Int32) [(.int (102 : Int32)), (.int (97 : Int32)), (.int (105 : Int32)), (.int (108 : Int32)), (.int (101 : Int32)), (.int (100 : Int32))] (.int (0 : Int32)) := Arv.start hfit A_v_value_v_label_w_FAILED Ln_v_value_v_label_w_FAILED.1 Ln_v_value_v_label_w_FAILED.2 (by decide) rfl ⟨El_v_value_v_label_w_FAILED_0, El_v_value_v_label_w_FAILED_1, El_v_value_v_label_w_FAILED_2, El_v_value_v_label_w_FAILED_3, El_v_value_v_label_w_FAILED_4, El_v_value_v_label_w_FAILED_5, trivial⟩
  obtain ⟨n, o, h1, h2, h3, _, L, rfl, ⟨rfl, N⟩, hq⟩ := rmLaw l s _ hw tables_1 i0 v_value_v_label_w_FAILED v_value_v_label_w_REFUSED v_value_v_label_w_GRANTED v_label_w_FAILED v_label_w_REFUSED v_label_w_GRANTED w_COMPACT_STRINGS w_FAILED w_REFUSED w__VALUES w_GRANTED c_w__VALUES.cls c_v_value_v_label_w_GRANTED.cls c_v_value_v_label_w_REFUSED.cls c_v_value_v_label_w_FAILED.cls s.heap s.heap.size (Old.start s) (own_nei g87 ev_w_COMPACT_STRINGS) S_w_GRANTED E_w_GRANTED S_w__VALUES E_w__VALUES S_w_REFUSED E_w_REFUSED S_w_FAILED E_w_FAILED S_w_COMPACT_STRINGS F_v_label_w_GRANTED E_v_label_w_GRANTED F_v_label_w_REFUSED E_v_label_w_REFUSED F_v_label_w_FAILED E_v_label_w_FAILED F_v_value_v_label_w_GRANTED F_v_value_v_label_w_REFUSED F_v_value_v_label_w_FAILED F_coder_v_label_w_GRANTED F_coder_v_label_w_REFUSED F_coder_v_label_w_FAILED V_w__VALUES V_v_value_v_label_w_GRANTED V_v_value_v_label_w_REFUSED V_v_value_v_label_w_FAILED p e ha hc hk s m _ below hf ((Spec.applies_iff_loose hf).mp happ).1 ⟨rfl, State.Warmed39.refl s, rfl⟩ trivial
  refine ⟨n, _, h1, h2, h3, hpost _ _ _ _ _ _ ⟨Cond.after_iff.mpr rfl, Cond.after_iff.mpr (eq_i res_at (Term.int_eval (1)) rfl), trivial⟩ ⟨hq.1, hq.2.1, (hq.2.2.sift fun y hy => Or.inr (N y hy)).mono (by decide) (by decide)⟩⟩
theorem main_1_1 : Claimed_1_1 := comes_1 fun _ _ _ _ _ _ h hF => ⟨h.1, hF⟩
theorem main_1_2 : Claimed_1_2 := comes_1 fun _ _ _ _ _ _ h hF => ⟨h.2.1, hF⟩
end Jvm.Pilot.@@N@@
namespace Jvm.Pilot.@@N@@
open Jvm Jvm.ClassFile Sem Op Lib Jvm.Free Jvm.Stand Jvm.Pilot.@@N@@.Jvm.D
/-! MADE BY PROGRAM (witnessworld.py) out of the Statement's table words and the real class files: 22 classes; the members and pool entries that the words name. The judged class is class 1, her method 1. -/
namespace start1
open Jvm.ClassFile
def u (s : String) : CpInfo := .utf8 (stringToUtf16 s)
/-- a pool by its gaps: so many unusable entries, then the entry; so many at the end -/
def gap : Nat → List CpInfo → List CpInfo
  | 0, r => r
  | n + 1, r => .unusable :: gap n r
def poolList (es : List (Nat × CpInfo)) (last : Nat) : List CpInfo := es.foldr (fun e r => gap e.1 (e.2 :: r)) (gap last [])
def pool (es : List (Nat × CpInfo)) (last : Nat) : Array CpInfo := ⟨poolList es last⟩
def fileOf (pool : Array CpInfo) (this : Nat) (attrs : Array Attribute := #[]) (ms : Array MethodInfo := #[]) (fl : Nat := 33) (sup : Nat := 0) (ifs : Array Nat := #[]) (fds : Array FieldInfo := #[]) : ClassFile where
  minorVersion := 0
  majorVersion := 65
  constantPool := pool
  accessFlags := fl
  thisClass := this
  superClass := sup
  interfaces := ifs
  fields := fds
  methods := ms
  attributes := attrs
def plain (name : String) (sup : Option ClassId) : Class where
  name := name
  kind := .ordinary
  loader := none
  accessFlags := 33
  super := sup
  interfaces := #[]
  cf := none
  fields := #[]
  methods := #[]
  instanceTypes := #[]
  staticTypes := #[]
  resolved := #[]
  callSites := []
  init := .initialized
  statics := none
  mirror := none

def pool0 : Array CpInfo := pool [(5, u "<init>"), (0, u "()V"), (1, .class_ 10), (1, u "java/lang/Object"), (85, u "clone"), (0, u "()Ljava/lang/Object;")] 26

def k0c0 : Code := { maxStack := 0, maxLocals := 1, code := object_method_1_code, exceptionTable := #[], attributes := #[] }
def k0m0 : Method := { name := "<init>", desc := "()V", sig := { parameters := [], returnType := none }, accessFlags := 1, code := some k0c0 }
def k0m1 : Method := { name := "clone", desc := "()Ljava/lang/Object;", sig := { parameters := [], returnType := some (.object "java/lang/Object") }, accessFlags := 260, code := none }
/-- java/lang/Object -/
def k0 : Class := { plain "java/lang/Object" none with
  accessFlags := 33
  interfaces := #[]
  cf := some (fileOf pool0 8 #[] #[{ accessFlags := 1, nameIndex := 5, descriptorIndex := 6, attributes := #[] }, { accessFlags := 260, nameIndex := 96, descriptorIndex := 97, attributes := #[] }] 33 0 #[] #[])
  fields := #[]
  methods := #[k0m0, k0m1]
  instanceTypes := #[]
  staticTypes := #[]
  resolved := Array.replicate 124 none
  statics := none }

def pool1 : Array CpInfo := pool [(2, .class_ 4), (1, u "java/lang/Object"), (0, u "<init>"), (0, u "()V"), (0, .integer 2147483647), (0, .fieldref 9 10), (0, .class_ 11), (0, .nameAndType 12 13), (0, u "com/example/aeacus/aeacus/log/Outcome"), (0, u "GRANTED"), (0, u "Lcom/example/aeacus/aeacus/log/Outcome;"), (0, .fieldref 9 15), (0, .nameAndType 16 13), (0, u "REFUSED"), (0, .fieldref 9 18), (0, .nameAndType 19 13), (0, u "FAILED"), (0, .class_ 21), (0, u "java/lang/String"), (0, .methodref 20 23), (0, .nameAndType 5 24), (0, u "([C)V"), (0, .methodref 9 26), (0, .nameAndType 27 28), (0, u "of"), (0, u "(Ljava/lang/String;)Lcom/example/aeacus/aeacus/log/Outcome;"), (0, .methodref 9 30), (0, .nameAndType 31 32), (0, u "label"), (0, u "()Ljava/lang/String;"), (0, .methodref 20 34), (0, .nameAndType 35 36), (0, u "equals"), (0, u "(Ljava/lang/Object;)Z"), (0, .class_ 38), (0, u "com/example/aeacus/aeacus/log/OutcomeOfPinLaw"), (2, u "law"), (0, u "(I)Z")] 5

def k1m0 : Method := { name := "<init>", desc := "()V", sig := { parameters := [], returnType := none }, accessFlags := 1, code := none }
def k1c1 : Code := { maxStack := 4, maxLocals := 6, code := code, exceptionTable := #[], attributes := #[] }
def k1m1 : Method := { name := "law", desc := "(I)Z", sig := { parameters := [.int], returnType := some .boolean }, accessFlags := 9, code := some k1c1 }
/-- com/example/aeacus/aeacus/log/OutcomeOfPinLaw -/
def k1 : Class := { plain "com/example/aeacus/aeacus/log/OutcomeOfPinLaw" (some 0) with
  accessFlags := 49
  interfaces := #[]
  cf := some (fileOf pool1 37 #[] #[{ accessFlags := 1, nameIndex := 5, descriptorIndex := 6, attributes := #[] }, { accessFlags := 9, nameIndex := 41, descriptorIndex := 42, attributes := #[] }] 49 2 #[] #[])
  fields := #[]
  methods := #[k1m0, k1m1]
  instanceTypes := #[]
  staticTypes := #[]
  resolved := Array.replicate 48 none
  statics := none }

def pool2 : Array CpInfo := pool [(1, .class_ 2), (0, u "java/lang/constant/Constable"), (0, .class_ 4), (0, u "java/lang/Object")] 6

/-- java/lang/constant/Constable -/
def k2 : Class := { plain "java/lang/constant/Constable" (some 0) with
  accessFlags := 1537
  interfaces := #[]
  cf := some (fileOf pool2 1 #[] #[] 1537 3 #[] #[])
  fields := #[]
  methods := #[]
  instanceTypes := #[]
  staticTypes := #[]
  resolved := Array.replicate 11 none
  statics := none }

def pool3 : Array CpInfo := pool [(1, .class_ 2), (0, u "java/lang/Comparable"), (0, .class_ 4), (0, u "java/lang/Object")] 7

/-- java/lang/Comparable -/
def k3 : Class := { plain "java/lang/Comparable" (some 0) with
  accessFlags := 1537
  interfaces := #[]
  cf := some (fileOf pool3 1 #[] #[] 1537 3 #[] #[])
  fields := #[]
  methods := #[]
  instanceTypes := #[]
  staticTypes := #[]
  resolved := Array.replicate 12 none
  statics := none }

def pool4 : Array CpInfo := pool [(1, .class_ 2), (0, u "java/io/Serializable"), (0, .class_ 4), (0, u "java/lang/Object")] 2

/-- java/io/Serializable -/
def k4 : Class := { plain "java/io/Serializable" (some 0) with
  accessFlags := 1537
  interfaces := #[]
  cf := some (fileOf pool4 1 #[] #[] 1537 3 #[] #[])
  fields := #[]
  methods := #[]
  instanceTypes := #[]
  staticTypes := #[]
  resolved := Array.replicate 7 none
  statics := none }

def pool5 : Array CpInfo := pool [(2, .class_ 4), (1, u "java/lang/Enum"), (0, u "name"), (0, u "Ljava/lang/String;"), (2, u "ordinal"), (0, u "I"), (1, .class_ 14), (1, u "java/lang/Object"), (4, u "hash"), (86, .class_ 108), (1, u "java/lang/Enum$EnumDesc"), (2, .class_ 112), (0, u "java/lang/constant/Constable"), (0, .class_ 114), (0, u "java/lang/Comparable"), (0, .class_ 116), (0, u "java/io/Serializable")] 87

/-- java/lang/Enum -/
def k5 : Class := { plain "java/lang/Enum" (some 0) with
  accessFlags := 1057
  interfaces := #[2, 3, 4]
  cf := some (fileOf pool5 2 #[.nestMembers #[106]] #[] 1057 12 #[111, 113, 115] #[{ accessFlags := 18, nameIndex := 5, descriptorIndex := 6, attributes := #[] }, { accessFlags := 18, nameIndex := 9, descriptorIndex := 10, attributes := #[] }, { accessFlags := 2, nameIndex := 19, descriptorIndex := 10, attributes := #[] }])
  fields := #[{ name := "name", type := (.object "java/lang/String"), accessFlags := 18, slot := 0, constantValue := 0 }, { name := "ordinal", type := .int, accessFlags := 18, slot := 1, constantValue := 0 }, { name := "hash", type := .int, accessFlags := 2, slot := 2, constantValue := 0 }]
  methods := #[]
  instanceTypes := #[(.object "java/lang/String"), .int, .int]
  staticTypes := #[]
  resolved := Array.replicate 204 none
  statics := none }

def pool6 : Array CpInfo := pool [(1, .class_ 2), (0, u "com/example/aeacus/aeacus/log/Outcome"), (2, u "GRANTED"), (0, u "Lcom/example/aeacus/aeacus/log/Outcome;"), (2, u "REFUSED"), (2, u "FAILED"), (0, .fieldref 1 14), (0, .nameAndType 15 16), (0, u "$VALUES"), (0, u "[Lcom/example/aeacus/aeacus/log/Outcome;"), (0, .methodref 18 19), (0, .class_ 16), (0, .nameAndType 20 21), (0, u "clone"), (0, u "()Ljava/lang/Object;"), (1, .class_ 25), (1, u "java/lang/Enum"), (6, .fieldref 1 33), (0, .nameAndType 34 35), (0, u "label"), (0, u "Ljava/lang/String;"), (0, .methodref 1 37), (0, .nameAndType 38 39), (0, u "values"), (0, u "()[Lcom/example/aeacus/aeacus/log/Outcome;"), (0, .methodref 41 42), (0, .class_ 43), (0, .nameAndType 44 45), (0, u "java/lang/String"), (0, u "equals"), (0, u "(Ljava/lang/Object;)Z"), (26, u "(Ljava/lang/String;)Lcom/example/aeacus/aeacus/log/Outcome;"), (2, u "()Ljava/lang/String;"), (0, u "of")] 21

def k6c0 : Code := { maxStack := 1, maxLocals := 0, code := prog_29_method_1_code, exceptionTable := #[], attributes := #[] }
def k6m0 : Method := { name := "values", desc := "()[Lcom/example/aeacus/aeacus/log/Outcome;", sig := { parameters := [], returnType := some (.array (.object "com/example/aeacus/aeacus/log/Outcome")) }, accessFlags := 9, code := some k6c0 }
def k6c1 : Code := { maxStack := 1, maxLocals := 1, code := prog_29_method_4_code, exceptionTable := #[], attributes := #[] }
def k6m1 : Method := { name := "label", desc := "()Ljava/lang/String;", sig := { parameters := [], returnType := some (.object "java/lang/String") }, accessFlags := 1, code := some k6c1 }
def k6c2 : Code := { maxStack := 3, maxLocals := 5, code := prog_29_method_5_code, exceptionTable := #[], attributes := #[] }
def k6m2 : Method := { name := "of", desc := "(Ljava/lang/String;)Lcom/example/aeacus/aeacus/log/Outcome;", sig := { parameters := [(.object "java/lang/String")], returnType := some (.object "com/example/aeacus/aeacus/log/Outcome") }, accessFlags := 9, code := some k6c2 }
/-- com/example/aeacus/aeacus/log/Outcome -/
def k6 : Class := { plain "com/example/aeacus/aeacus/log/Outcome" (some 5) with
  accessFlags := 16433
  interfaces := #[]
  cf := some (fileOf pool6 1 #[] #[{ accessFlags := 9, nameIndex := 38, descriptorIndex := 39, attributes := #[] }, { accessFlags := 1, nameIndex := 34, descriptorIndex := 75, attributes := #[] }, { accessFlags := 9, nameIndex := 76, descriptorIndex := 72, attributes := #[] }] 16433 23 #[] #[{ accessFlags := 16409, nameIndex := 5, descriptorIndex := 6, attributes := #[] }, { accessFlags := 16409, nameIndex := 9, descriptorIndex := 6, attributes := #[] }, { accessFlags := 16409, nameIndex := 12, descriptorIndex := 6, attributes := #[] }, { accessFlags := 18, nameIndex := 34, descriptorIndex := 35, attributes := #[] }, { accessFlags := 4122, nameIndex := 15, descriptorIndex := 16, attributes := #[] }])
  fields := #[{ name := "GRANTED", type := (.object "com/example/aeacus/aeacus/log/Outcome"), accessFlags := 16409, slot := 0, constantValue := 0 }, { name := "REFUSED", type := (.object "com/example/aeacus/aeacus/log/Outcome"), accessFlags := 16409, slot := 1, constantValue := 0 }, { name := "FAILED", type := (.object "com/example/aeacus/aeacus/log/Outcome"), accessFlags := 16409, slot := 2, constantValue := 0 }, { name := "label", type := (.object "java/lang/String"), accessFlags := 18, slot := 3, constantValue := 0 }, { name := "$VALUES", type := (.array (.object "com/example/aeacus/aeacus/log/Outcome")), accessFlags := 4122, slot := 3, constantValue := 0 }]
  methods := #[k6m0, k6m1, k6m2]
  instanceTypes := #[(.object "java/lang/String"), .int, .int, (.object "java/lang/String")]
  staticTypes := #[(.object "com/example/aeacus/aeacus/log/Outcome"), (.object "com/example/aeacus/aeacus/log/Outcome"), (.object "com/example/aeacus/aeacus/log/Outcome"), (.array (.object "com/example/aeacus/aeacus/log/Outcome"))]
  resolved := Array.replicate 98 none
  statics := some 0 }

def pool7 : Array CpInfo := pool [(2, .class_ 4), (1, u "java/lang/CharSequence"), (42, .class_ 48), (0, u "java/lang/CharSequence$1CodePointIterator"), (10, .class_ 60), (0, u "java/lang/CharSequence$1CharIterator"), (5, .class_ 67), (0, u "java/lang/Object")] 63

/-- java/lang/CharSequence -/
def k7 : Class := { plain "java/lang/CharSequence" (some 0) with
  accessFlags := 1537
  interfaces := #[]
  cf := some (fileOf pool7 2 #[.nestMembers #[47, 59]] #[] 1537 66 #[] #[])
  fields := #[]
  methods := #[]
  instanceTypes := #[]
  staticTypes := #[]
  resolved := Array.replicate 131 none
  statics := none }

def pool8 : Array CpInfo := pool [(1, .class_ 2), (0, u "java/lang/constant/ConstantDesc"), (0, .class_ 4), (0, u "java/lang/Object")] 32

/-- java/lang/constant/ConstantDesc -/
def k8 : Class := { plain "java/lang/constant/ConstantDesc" (some 0) with
  accessFlags := 1537
  interfaces := #[]
  cf := some (fileOf pool8 1 #[] #[] 1537 3 #[] #[])
  fields := #[]
  methods := #[]
  instanceTypes := #[]
  staticTypes := #[]
  resolved := Array.replicate 37 none
  statics := none }

def pool9 : Array CpInfo := pool [(1, .methodref 2 3), (0, .class_ 4), (0, .nameAndType 5 6), (0, u "java/lang/Object"), (0, u "<init>"), (0, u "()V"), (2, .fieldref 10 11), (0, .class_ 12), (0, .nameAndType 13 14), (0, u "java/lang/String"), (0, u "value"), (0, u "[B"), (0, .fieldref 10 16), (0, .nameAndType 17 18), (0, u "coder"), (0, u "B"), (2, u "hash"), (0, u "I"), (2, u "hashIsZero"), (0, u "Z"), (0, .methodref 10 28), (0, .nameAndType 5 29), (0, u "([CIILjava/lang/Void;)V"), (8, .fieldref 10 39), (0, .nameAndType 40 26), (0, u "COMPACT_STRINGS"), (1, .class_ 44), (1, u "java/lang/StringUTF16"), (0, u "compress"), (1, .methodref 42 48), (0, .nameAndType 49 50), (0, u "coderFromArrayLen"), (0, u "([BI)B"), (56, .class_ 109), (1, u "java/lang/StringLatin1"), (67, .methodref 42 178), (0, .nameAndType 45 179), (0, u "([CII)[B"), (361, .methodref 107 542), (0, .nameAndType 543 544), (0, u "equals"), (0, u "([B[B)Z"), (28, u "(Ljava/lang/Object;)Z"), (1, .class_ 576), (0, u "java/lang/CharSequence"), (22, u "CASE_INSENSITIVE_ORDER"), (0, u "Ljava/util/Comparator;"), (409, u "([C)V"), (90, u "serialPersistentFields"), (0, u "[Ljava/io/ObjectStreamField;"), (0, .class_ 1104), (0, u "java/lang/String$CaseInsensitiveComparator"), (1, .class_ 1107), (0, u "java/io/Serializable"), (0, .class_ 1109), (0, u "java/lang/Comparable"), (0, .class_ 1111), (0, u "java/lang/constant/Constable"), (0, .class_ 1113), (0, u "java/lang/constant/ConstantDesc"), (2, u "serialVersionUID"), (0, u "J"), (3, u "REPL"), (0, u "C"), (2, u "LATIN1"), (1, u "UTF16")] 323

def k9m0 : Method := { name := "<init>", desc := "()V", sig := { parameters := [], returnType := none }, accessFlags := 1, code := none }
def k9c1 : Code := { maxStack := 5, maxLocals := 2, code := jdk_42_method_3_code, exceptionTable := #[], attributes := #[] }
def k9m1 : Method := { name := "<init>", desc := "([C)V", sig := { parameters := [(.array .char)], returnType := none }, accessFlags := 1, code := some k9c1 }
def k9c2 : Code := { maxStack := 2, maxLocals := 3, code := jdk_42_method_66_code, exceptionTable := #[], attributes := #[] }
def k9m2 : Method := { name := "equals", desc := "(Ljava/lang/Object;)Z", sig := { parameters := [(.object "java/lang/Object")], returnType := some .boolean }, accessFlags := 1, code := some k9c2 }
def k9c3 : Code := { maxStack := 4, maxLocals := 6, code := jdk_42_method_149_code, exceptionTable := #[], attributes := #[] }
def k9m3 : Method := { name := "<init>", desc := "([CIILjava/lang/Void;)V", sig := { parameters := [(.array .char), .int, .int, (.object "java/lang/Void")], returnType := none }, accessFlags := 2, code := some k9c3 }
/-- java/lang/String -/
def k9 : Class := { plain "java/lang/String" (some 0) with
  accessFlags := 49
  interfaces := #[4, 3, 7, 2, 8]
  cf := some (fileOf pool9 10 #[.nestMembers #[1103]] #[{ accessFlags := 1, nameIndex := 5, descriptorIndex := 6, attributes := #[] }, { accessFlags := 1, nameIndex := 5, descriptorIndex := 1010, attributes := #[] }, { accessFlags := 1, nameIndex := 543, descriptorIndex := 573, attributes := #[] }, { accessFlags := 2, nameIndex := 5, descriptorIndex := 29, attributes := #[] }] 49 2 #[1106, 1108, 575, 1110, 1112] #[{ accessFlags := 18, nameIndex := 13, descriptorIndex := 14, attributes := #[] }, { accessFlags := 18, nameIndex := 17, descriptorIndex := 18, attributes := #[] }, { accessFlags := 2, nameIndex := 21, descriptorIndex := 22, attributes := #[] }, { accessFlags := 2, nameIndex := 25, descriptorIndex := 26, attributes := #[] }, { accessFlags := 26, nameIndex := 1116, descriptorIndex := 1117, attributes := #[] }, { accessFlags := 24, nameIndex := 40, descriptorIndex := 26, attributes := #[] }, { accessFlags := 26, nameIndex := 1101, descriptorIndex := 1102, attributes := #[] }, { accessFlags := 26, nameIndex := 1121, descriptorIndex := 1122, attributes := #[] }, { accessFlags := 25, nameIndex := 599, descriptorIndex := 600, attributes := #[] }, { accessFlags := 24, nameIndex := 1125, descriptorIndex := 18, attributes := #[] }, { accessFlags := 24, nameIndex := 1127, descriptorIndex := 18, attributes := #[] }])
  fields := #[{ name := "value", type := (.array .byte), accessFlags := 18, slot := 0, constantValue := 0 }, { name := "coder", type := .byte, accessFlags := 18, slot := 1, constantValue := 0 }, { name := "hash", type := .int, accessFlags := 2, slot := 2, constantValue := 0 }, { name := "hashIsZero", type := .boolean, accessFlags := 2, slot := 3, constantValue := 0 }, { name := "serialVersionUID", type := .long, accessFlags := 26, slot := 0, constantValue := 0 }, { name := "COMPACT_STRINGS", type := .boolean, accessFlags := 24, slot := 1, constantValue := 0 }, { name := "serialPersistentFields", type := (.array (.object "java/io/ObjectStreamField")), accessFlags := 26, slot := 2, constantValue := 0 }, { name := "REPL", type := .char, accessFlags := 26, slot := 3, constantValue := 0 }, { name := "CASE_INSENSITIVE_ORDER", type := (.object "java/util/Comparator"), accessFlags := 25, slot := 4, constantValue := 0 }, { name := "LATIN1", type := .byte, accessFlags := 24, slot := 5, constantValue := 0 }, { name := "UTF16", type := .byte, accessFlags := 24, slot := 6, constantValue := 0 }]
  methods := #[k9m0, k9m1, k9m2, k9m3]
  instanceTypes := #[(.array .byte), .byte, .int, .boolean]
  staticTypes := #[.long, .boolean, (.array (.object "java/io/ObjectStreamField")), .char, (.object "java/util/Comparator"), .byte, .byte]
  resolved := Array.replicate 1451 none
  statics := some 1 }

def pool10 : Array CpInfo := pool [(6, .class_ 8), (1, u "java/lang/Object"), (0, u "<init>"), (0, u "()V"), (1, .class_ 14), (1, u "java/lang/StringUTF16"), (31, u "$assertionsDisabled"), (0, u "Z"), (13, u "HI_BYTE_SHIFT"), (0, u "I"), (2, u "LO_BYTE_SHIFT"), (49, .methodref 12 116), (0, .nameAndType 117 118), (0, u "compress"), (0, u "([CI[BII)I"), (3, u "([CII)[B"), (138, u "coderFromArrayLen"), (0, u "([BI)B"), (106, .class_ 371), (1, u "java/lang/StringUTF16$LinesSpliterator"), (58, u "MAX_LENGTH"), (196, .class_ 628), (0, u "java/lang/StringUTF16$CodePointsSpliterator"), (0, .class_ 630), (0, u "java/lang/StringUTF16$CharsSpliterator")] 4

def k10m0 : Method := { name := "<init>", desc := "()V", sig := { parameters := [], returnType := none }, accessFlags := 0, code := none }
def k10c1 : Code := { maxStack := 2, maxLocals := 2, code := jdk_52_method_15_code, exceptionTable := #[], attributes := #[] }
def k10m1 : Method := { name := "coderFromArrayLen", desc := "([BI)B", sig := { parameters := [(.array .byte), .int], returnType := some .byte }, accessFlags := 8, code := some k10c1 }
def k10c2 : Code := { maxStack := 5, maxLocals := 6, code := jdk_52_method_16_code, exceptionTable := #[], attributes := #[] }
def k10m2 : Method := { name := "compress", desc := "([CII)[B", sig := { parameters := [(.array .char), .int, .int], returnType := some (.array .byte) }, accessFlags := 9, code := some k10c2 }
def k10c3 : Code := { maxStack := 3, maxLocals := 7, code := jdk_52_method_21_code, exceptionTable := #[], attributes := #[] }
def k10m3 : Method := { name := "compress", desc := "([CI[BII)I", sig := { parameters := [(.array .char), .int, (.array .byte), .int, .int], returnType := some .int }, accessFlags := 9, code := some k10c3 }
/-- java/lang/StringUTF16 -/
def k10 : Class := { plain "java/lang/StringUTF16" (some 0) with
  accessFlags := 48
  interfaces := #[]
  cf := some (fileOf pool10 12 #[.nestMembers #[627, 629, 369]] #[{ accessFlags := 0, nameIndex := 9, descriptorIndex := 10, attributes := #[] }, { accessFlags := 8, nameIndex := 261, descriptorIndex := 262, attributes := #[] }, { accessFlags := 9, nameIndex := 117, descriptorIndex := 122, attributes := #[] }, { accessFlags := 9, nameIndex := 117, descriptorIndex := 118, attributes := #[] }] 48 6 #[] #[{ accessFlags := 26, nameIndex := 61, descriptorIndex := 62, attributes := #[] }, { accessFlags := 26, nameIndex := 65, descriptorIndex := 62, attributes := #[] }, { accessFlags := 24, nameIndex := 430, descriptorIndex := 62, attributes := #[] }, { accessFlags := 4120, nameIndex := 46, descriptorIndex := 47, attributes := #[] }])
  fields := #[{ name := "HI_BYTE_SHIFT", type := .int, accessFlags := 26, slot := 0, constantValue := 0 }, { name := "LO_BYTE_SHIFT", type := .int, accessFlags := 26, slot := 1, constantValue := 0 }, { name := "MAX_LENGTH", type := .int, accessFlags := 24, slot := 2, constantValue := 0 }, { name := "$assertionsDisabled", type := .boolean, accessFlags := 4120, slot := 3, constantValue := 0 }]
  methods := #[k10m0, k10m1, k10m2, k10m3]
  instanceTypes := #[]
  staticTypes := #[.int, .int, .int, .boolean]
  resolved := Array.replicate 635 none
  statics := none }

def pool11 : Array CpInfo := pool [(1, .class_ 2), (0, u "java/lang/Cloneable"), (0, .class_ 4), (0, u "java/lang/Object")] 2

/-- java/lang/Cloneable -/
def k11 : Class := { plain "java/lang/Cloneable" (some 0) with
  accessFlags := 1537
  interfaces := #[]
  cf := some (fileOf pool11 1 #[] #[] 1537 3 #[] #[])
  fields := #[]
  methods := #[]
  instanceTypes := #[]
  staticTypes := #[]
  resolved := Array.replicate 7 none
  statics := none }

def pool12 : Array CpInfo := pool [(4, .class_ 6), (1, u "java/lang/Object"), (0, u "<init>"), (0, u "()V"), (5, .class_ 16), (1, u "java/lang/StringLatin1"), (104, u "$assertionsDisabled"), (0, u "Z"), (98, .class_ 223), (1, u "java/lang/StringLatin1$LinesSpliterator"), (57, u "equals"), (0, u "([B[B)Z"), (107, .class_ 391), (0, u "java/lang/StringLatin1$CharsSpliterator")] 3

def k12m0 : Method := { name := "<init>", desc := "()V", sig := { parameters := [], returnType := none }, accessFlags := 0, code := none }
def k12c1 : Code := { maxStack := 3, maxLocals := 3, code := jdk_43_method_13_code, exceptionTable := #[], attributes := #[] }
def k12m1 : Method := { name := "equals", desc := "([B[B)Z", sig := { parameters := [(.array .byte), (.array .byte)], returnType := some .boolean }, accessFlags := 9, code := some k12c1 }
/-- java/lang/StringLatin1 -/
def k12 : Class := { plain "java/lang/StringLatin1" (some 0) with
  accessFlags := 48
  interfaces := #[]
  cf := some (fileOf pool12 14 #[.nestMembers #[390, 221]] #[{ accessFlags := 0, nameIndex := 7, descriptorIndex := 8, attributes := #[] }, { accessFlags := 9, nameIndex := 281, descriptorIndex := 282, attributes := #[] }] 48 4 #[] #[{ accessFlags := 4120, nameIndex := 121, descriptorIndex := 122, attributes := #[] }])
  fields := #[{ name := "$assertionsDisabled", type := .boolean, accessFlags := 4120, slot := 0, constantValue := 0 }]
  methods := #[k12m0, k12m1]
  instanceTypes := #[]
  staticTypes := #[.boolean]
  resolved := Array.replicate 395 none
  statics := none }

def pool13 : Array CpInfo := pool [(2, .class_ 4), (1, u "java/lang/Object"), (0, u "<init>"), (0, u "()V"), (17, .class_ 26), (1, u "jdk/internal/util/Preconditions"), (28, .class_ 56), (0, u "jdk/internal/util/Preconditions$4"), (57, .class_ 115), (0, u "jdk/internal/util/Preconditions$1"), (7, u "SIOOBE_FORMATTER"), (0, u "Ljava/util/function/BiFunction;"), (0, .class_ 126), (0, u "jdk/internal/util/Preconditions$2"), (3, u "AIOOBE_FORMATTER"), (0, .class_ 132), (0, u "jdk/internal/util/Preconditions$3"), (3, u "IOOBE_FORMATTER")] 57

def k13m0 : Method := { name := "<init>", desc := "()V", sig := { parameters := [], returnType := none }, accessFlags := 1, code := none }
/-- jdk/internal/util/Preconditions -/
def k13 : Class := { plain "jdk/internal/util/Preconditions" (some 0) with
  accessFlags := 33
  interfaces := #[]
  cf := some (fileOf pool13 24 #[.nestMembers #[55, 131, 125, 114]] #[{ accessFlags := 1, nameIndex := 5, descriptorIndex := 6, attributes := #[] }] 33 2 #[] #[{ accessFlags := 25, nameIndex := 123, descriptorIndex := 124, attributes := #[] }, { accessFlags := 25, nameIndex := 130, descriptorIndex := 124, attributes := #[] }, { accessFlags := 25, nameIndex := 136, descriptorIndex := 124, attributes := #[] }])
  fields := #[{ name := "SIOOBE_FORMATTER", type := (.object "java/util/function/BiFunction"), accessFlags := 25, slot := 0, constantValue := 0 }, { name := "AIOOBE_FORMATTER", type := (.object "java/util/function/BiFunction"), accessFlags := 25, slot := 1, constantValue := 0 }, { name := "IOOBE_FORMATTER", type := (.object "java/util/function/BiFunction"), accessFlags := 25, slot := 2, constantValue := 0 }]
  methods := #[k13m0]
  instanceTypes := #[]
  staticTypes := #[(.object "java/util/function/BiFunction"), (.object "java/util/function/BiFunction"), (.object "java/util/function/BiFunction")]
  resolved := Array.replicate 194 none
  statics := some 2 }

def pool14 : Array CpInfo := pool [(9, u "<init>"), (6, .class_ 18), (1, u "java/lang/Object"), (0, u "()V"), (1, .class_ 23), (1, u "jdk/internal/util/ArraysSupport"), (0, u "LOG2_ARRAY_LONG_INDEX_SCALE"), (0, u "I"), (2, u "U"), (0, u "Ljdk/internal/misc/Unsafe;"), (8, u "BIG_ENDIAN"), (0, u "Z"), (8, u "LOG2_BYTE_BIT_SIZE"), (4, u "LOG2_ARRAY_INT_INDEX_SCALE"), (54, u "JLA"), (0, u "Ljdk/internal/access/JavaLangAccess;"), (11, u "LOG2_ARRAY_BOOLEAN_INDEX_SCALE"), (9, u "LOG2_ARRAY_BYTE_INDEX_SCALE"), (5, u "LOG2_ARRAY_CHAR_INDEX_SCALE"), (5, u "LOG2_ARRAY_SHORT_INDEX_SCALE"), (18, u "LOG2_ARRAY_FLOAT_INDEX_SCALE"), (24, u "LOG2_ARRAY_DOUBLE_INDEX_SCALE"), (89, u "T_BOOLEAN"), (2, u "T_CHAR"), (1, u "T_FLOAT"), (1, u "T_DOUBLE"), (1, u "T_BYTE"), (1, u "T_SHORT"), (1, u "T_INT"), (1, u "T_LONG"), (1, u "SOFT_MAX_ARRAY_LENGTH")] 83

def k14m0 : Method := { name := "<init>", desc := "()V", sig := { parameters := [], returnType := none }, accessFlags := 2, code := none }
/-- jdk/internal/util/ArraysSupport -/
def k14 : Class := { plain "jdk/internal/util/ArraysSupport" (some 0) with
  accessFlags := 33
  interfaces := #[]
  cf := some (fileOf pool14 21 #[] #[{ accessFlags := 2, nameIndex := 9, descriptorIndex := 19, attributes := #[] }] 33 16 #[] #[{ accessFlags := 24, nameIndex := 28, descriptorIndex := 29, attributes := #[] }, { accessFlags := 26, nameIndex := 38, descriptorIndex := 39, attributes := #[] }, { accessFlags := 25, nameIndex := 121, descriptorIndex := 25, attributes := #[] }, { accessFlags := 25, nameIndex := 131, descriptorIndex := 25, attributes := #[] }, { accessFlags := 25, nameIndex := 137, descriptorIndex := 25, attributes := #[] }, { accessFlags := 25, nameIndex := 143, descriptorIndex := 25, attributes := #[] }, { accessFlags := 25, nameIndex := 53, descriptorIndex := 25, attributes := #[] }, { accessFlags := 25, nameIndex := 24, descriptorIndex := 25, attributes := #[] }, { accessFlags := 25, nameIndex := 162, descriptorIndex := 25, attributes := #[] }, { accessFlags := 25, nameIndex := 187, descriptorIndex := 25, attributes := #[] }, { accessFlags := 26, nameIndex := 48, descriptorIndex := 25, attributes := #[] }, { accessFlags := 25, nameIndex := 277, descriptorIndex := 25, attributes := #[] }, { accessFlags := 25, nameIndex := 280, descriptorIndex := 25, attributes := #[] }, { accessFlags := 25, nameIndex := 282, descriptorIndex := 25, attributes := #[] }, { accessFlags := 25, nameIndex := 284, descriptorIndex := 25, attributes := #[] }, { accessFlags := 25, nameIndex := 286, descriptorIndex := 25, attributes := #[] }, { accessFlags := 25, nameIndex := 288, descriptorIndex := 25, attributes := #[] }, { accessFlags := 25, nameIndex := 290, descriptorIndex := 25, attributes := #[] }, { accessFlags := 25, nameIndex := 292, descriptorIndex := 25, attributes := #[] }, { accessFlags := 26, nameIndex := 108, descriptorIndex := 109, attributes := #[] }, { accessFlags := 25, nameIndex := 294, descriptorIndex := 25, attributes := #[] }])
  fields := #[{ name := "U", type := (.object "jdk/internal/misc/Unsafe"), accessFlags := 24, slot := 0, constantValue := 0 }, { name := "BIG_ENDIAN", type := .boolean, accessFlags := 26, slot := 1, constantValue := 0 }, { name := "LOG2_ARRAY_BOOLEAN_INDEX_SCALE", type := .int, accessFlags := 25, slot := 2, constantValue := 0 }, { name := "LOG2_ARRAY_BYTE_INDEX_SCALE", type := .int, accessFlags := 25, slot := 3, constantValue := 0 }, { name := "LOG2_ARRAY_CHAR_INDEX_SCALE", type := .int, accessFlags := 25, slot := 4, constantValue := 0 }, { name := "LOG2_ARRAY_SHORT_INDEX_SCALE", type := .int, accessFlags := 25, slot := 5, constantValue := 0 }, { name := "LOG2_ARRAY_INT_INDEX_SCALE", type := .int, accessFlags := 25, slot := 6, constantValue := 0 }, { name := "LOG2_ARRAY_LONG_INDEX_SCALE", type := .int, accessFlags := 25, slot := 7, constantValue := 0 }, { name := "LOG2_ARRAY_FLOAT_INDEX_SCALE", type := .int, accessFlags := 25, slot := 8, constantValue := 0 }, { name := "LOG2_ARRAY_DOUBLE_INDEX_SCALE", type := .int, accessFlags := 25, slot := 9, constantValue := 0 }, { name := "LOG2_BYTE_BIT_SIZE", type := .int, accessFlags := 26, slot := 10, constantValue := 0 }, { name := "T_BOOLEAN", type := .int, accessFlags := 25, slot := 11, constantValue := 0 }, { name := "T_CHAR", type := .int, accessFlags := 25, slot := 12, constantValue := 0 }, { name := "T_FLOAT", type := .int, accessFlags := 25, slot := 13, constantValue := 0 }, { name := "T_DOUBLE", type := .int, accessFlags := 25, slot := 14, constantValue := 0 }, { name := "T_BYTE", type := .int, accessFlags := 25, slot := 15, constantValue := 0 }, { name := "T_SHORT", type := .int, accessFlags := 25, slot := 16, constantValue := 0 }, { name := "T_INT", type := .int, accessFlags := 25, slot := 17, constantValue := 0 }, { name := "T_LONG", type := .int, accessFlags := 25, slot := 18, constantValue := 0 }, { name := "JLA", type := (.object "jdk/internal/access/JavaLangAccess"), accessFlags := 26, slot := 19, constantValue := 0 }, { name := "SOFT_MAX_ARRAY_LENGTH", type := .int, accessFlags := 25, slot := 20, constantValue := 0 }]
  methods := #[k14m0]
  instanceTypes := #[]
  staticTypes := #[(.object "jdk/internal/misc/Unsafe"), .boolean, .int, .int, .int, .int, .int, .int, .int, .int, .int, .int, .int, .int, .int, .int, .int, .int, .int, (.object "jdk/internal/access/JavaLangAccess"), .int]
  resolved := Array.replicate 378 none
  statics := none }

/-- the primitive byte -/
def k15 : Class := { plain "byte" none with kind := .primitive 'B', accessFlags := 0x411 }
/-- [B -/
def k16 : Class := { plain "[B" (some 0) with kind := .array 15 .byte, interfaces := #[11, 4], accessFlags := 1041 }

/-- the primitive char -/
def k17 : Class := { plain "char" none with kind := .primitive 'C', accessFlags := 0x411 }
/-- [C -/
def k18 : Class := { plain "[C" (some 0) with kind := .array 17 .char, interfaces := #[11, 4], accessFlags := 1041 }

/-- the primitive int -/
def k19 : Class := { plain "int" none with kind := .primitive 'I', accessFlags := 0x411 }
/-- [I -/
def k20 : Class := { plain "[I" (some 0) with kind := .array 19 .int, interfaces := #[11, 4], accessFlags := 1041 }

/-- [Lcom/example/aeacus/aeacus/log/Outcome; -/
def k21 : Class := { plain "[Lcom/example/aeacus/aeacus/log/Outcome;" (some 0) with kind := .array 6 (.object "com/example/aeacus/aeacus/log/Outcome"), interfaces := #[11, 4], accessFlags := 1041 }

def heap : Heap := #[{ cls := 6, slots := #[.ref 4, .ref 5, .ref 6, .ref 3], vm := .statics 6 },
  { cls := 9, slots := #[.long 0, .int 1, .null, .int 0, .null, .int 0, .int 0], vm := .statics 9 },
  { cls := 13, slots := #[.null, .null, .null], vm := .statics 13 },
  { cls := 21, slots := #[.ref 4, .ref 5, .ref 6], vm := .none },
  { cls := 6, slots := #[.null, .int 0, .int 0, .ref 7], vm := .none },
  { cls := 6, slots := #[.null, .int 0, .int 0, .ref 8], vm := .none },
  { cls := 6, slots := #[.null, .int 0, .int 0, .ref 9], vm := .none },
  { cls := 9, slots := #[.ref 10, .int 0, .int 0, .int 0], vm := .none },
  { cls := 9, slots := #[.ref 11, .int 0, .int 0, .int 0], vm := .none },
  { cls := 9, slots := #[.ref 12, .int 0, .int 0, .int 0], vm := .none },
  { cls := 16, slots := #[.int 103, .int 114, .int 97, .int 110, .int 116, .int 101, .int 100], vm := .none },
  { cls := 16, slots := #[.int 114, .int 101, .int 102, .int 117, .int 115, .int 101, .int 100], vm := .none },
  { cls := 16, slots := #[.int 102, .int 97, .int 105, .int 108, .int 101, .int 100], vm := .none }]
def classes : Array Class := #[k0, k1, k2, k3, k4, k5, k6, k7, k8, k9, k10, k11, k12, k13, k14, k15, k16, k17, k18, k19, k20, k21]
def interned : List (Array UInt16 × Addr) := []
def slotsUsed : Nat := 61
def theMethod : MethodId := ⟨1, 1⟩
def args0 : Array Value := #[.int 7]
def aboutOver (below : List Frame) : State where
  vm := { classes := classes, interned := interned.toArray }
  heap := heap
  slotsUsed := slotsUsed
  threads := #[{ frames := .invoking theMethod args0 :: below }]
def below0 : List Frame := [.native { method := ⟨0, 0⟩, args := #[] }]
def about1 : State := aboutOver below0
def p0 : Program := .bare "" "" ""
def e0 : Env := launch0.env 0 0 0
theorem w_frames : about1.frames = Frame.invoking theMethod args0 :: below0 := rfl
set_option maxRecDepth 65536 in
theorem w_args : argsFit about1.vm theMethod args0 = true := by decide +kernel
set_option maxRecDepth 65536 in
theorem w_heap : heapFits about1 = true := by decide +kernel
set_option maxRecDepth 65536 in
theorem w_runnable : about1.curStatus? = some .runnable := by decide +kernel
set_option maxRecDepth 65536 in
theorem w_alone : about1.alone = true := by decide +kernel
set_option maxRecDepth 65536 in
theorem w_named : about1.methodNamed? x = some theMethod := by decide +kernel
set_option maxRecDepth 65536 in
theorem w_hears : about1.hears theMethod below0 = true := by decide +kernel
set_option maxRecDepth 65536 in
theorem w_ripe : about1.ripe theMethod args0 below0 = true := by decide +kernel
theorem w_running : about1.status = .running := rfl
set_option maxRecDepth 65536 in
theorem w_room : about1.hasRoom e0.platform room_1 = true :=
  launch0.hasRoom_least _ room_1 (by decide +kernel) (by decide +kernel) (by decide +kernel) (by decide +kernel) (by decide +kernel) (by decide +kernel)
theorem allAtoms_all (ts : List Jvm.Cond) (a : Array Jvm.Value) (st : Jvm.State) : (allAtoms ts).before a st = ts.all (fun c => c.before a st) := by
  induction ts with
  | nil => rfl
  | cons c t ih =>
    show (Jvm.Cond.and c (allAtoms t)).before a st = _
    rw [Jvm.Cond.before_and, ih, List.all_cons]
def words1 : List Jvm.Cond := Jvm.Cond.code x code maxLocals ret :: tables_1
/-- a 'code' word, met by the world's own term for the bytes: nothing is compared byte by byte -/
theorem code_word {y : MethodName} {bytes : ByteArray} {mx : Nat} {rt : Option FieldType} {a : Array Value} {s : State} {m : MethodId} {meth : Method} {c : Code} (h1 : s.methodNamed? y = some m) (h2 : s.vm.method? m = some meth) (h3 : meth.code = some c) (h4 : c.code = bytes)
    (h5 : (c.maxLocals == mx && c.exceptionTable.isEmpty && decide (c.maxStack ≤ mostOperands) && decide (meth.sig.returnType = rt) && !meth.locks && decide (parseMethodDescriptor y.desc = some meth.sig)) = true) : (Jvm.Cond.code y bytes mx rt).before a s = true := by
  simp only [Bool.and_eq_true, beq_iff_eq, Bool.not_eq_true', decide_eq_true_eq] at h5
  obtain ⟨⟨⟨⟨⟨g1, g2⟩, g3⟩, g4⟩, g5⟩, g6⟩ := h5
  simp [Cond.before, Cond.holds, Cond.value, h1, h2, h3, h4, g1, g2, g3, g4, g5, g6]
def isCode : Jvm.Cond → Bool
  | .code _ _ _ _ => true
  | _ => false
theorem all_split {L : List Jvm.Cond} {P : Jvm.Cond → Bool} (h1 : L.all (fun c => isCode c || P c) = true) (h2 : ∀ c ∈ L.filter isCode, P c = true) : L.all P = true := by
  refine List.all_eq_true.mpr fun c hc => ?_
  have h := List.all_eq_true.mp h1 c hc
  rcases Bool.eq_false_or_eq_true (isCode c) with hi | hi
  · exact h2 c (List.mem_filter.mpr ⟨hc, hi⟩)
  · simpa [hi] using h
set_option maxRecDepth 65536 in
theorem w_c0 : (Jvm.Cond.code x code maxLocals ret).before args0 about1 = true := code_word (m := ⟨1, 1⟩) (meth := k1m1) (c := k1c1) (by decide +kernel) rfl rfl rfl (by decide +kernel)
set_option maxRecDepth 65536 in
theorem w_c1 : (Jvm.Cond.code ({ cls := "java/lang/String", name := "<init>", desc := "([C)V" } : Jvm.MethodName) jdk_42_method_3_code (2 : Nat) (Option.none : Option Jvm.ClassFile.FieldType)).before args0 about1 = true := code_word (m := ⟨9, 1⟩) (meth := k9m1) (c := k9c1) (by decide +kernel) rfl rfl rfl (by decide +kernel)
set_option maxRecDepth 65536 in
theorem w_c2 : (Jvm.Cond.code ({ cls := "java/lang/String", name := "<init>", desc := "([CIILjava/lang/Void;)V" } : Jvm.MethodName) jdk_42_method_149_code (6 : Nat) (Option.none : Option Jvm.ClassFile.FieldType)).before args0 about1 = true := code_word (m := ⟨9, 3⟩) (meth := k9m3) (c := k9c3) (by decide +kernel) rfl rfl rfl (by decide +kernel)
set_option maxRecDepth 65536 in
theorem w_c3 : (Jvm.Cond.code ({ cls := "java/lang/Object", name := "<init>", desc := "()V" } : Jvm.MethodName) object_method_1_code (1 : Nat) (Option.none : Option Jvm.ClassFile.FieldType)).before args0 about1 = true := code_word (m := ⟨0, 0⟩) (meth := k0m0) (c := k0c0) (by decide +kernel) rfl rfl rfl (by decide +kernel)
set_option maxRecDepth 65536 in
theorem w_c4 : (Jvm.Cond.code ({ cls := "java/lang/StringUTF16", name := "compress", desc := "([CII)[B" } : Jvm.MethodName) jdk_52_method_16_code (6 : Nat) (Option.some (Jvm.ClassFile.FieldType.array Jvm.ClassFile.FieldType.byte))).before args0 about1 = true := code_word (m := ⟨10, 2⟩) (meth := k10m2) (c := k10c2) (by decide +kernel) rfl rfl rfl (by decide +kernel)
set_option maxRecDepth 65536 in
theorem w_c5 : (Jvm.Cond.code ({ cls := "java/lang/StringUTF16", name := "compress", desc := "([CI[BII)I" } : Jvm.MethodName) jdk_52_method_21_code (7 : Nat) (Option.some Jvm.ClassFile.FieldType.int)).before args0 about1 = true := code_word (m := ⟨10, 3⟩) (meth := k10m3) (c := k10c3) (by decide +kernel) rfl rfl rfl (by decide +kernel)
set_option maxRecDepth 65536 in
theorem w_c6 : (Jvm.Cond.code ({ cls := "java/lang/StringUTF16", name := "coderFromArrayLen", desc := "([BI)B" } : Jvm.MethodName) jdk_52_method_15_code (2 : Nat) (Option.some Jvm.ClassFile.FieldType.byte)).before args0 about1 = true := code_word (m := ⟨10, 1⟩) (meth := k10m1) (c := k10c1) (by decide +kernel) rfl rfl rfl (by decide +kernel)
set_option maxRecDepth 65536 in
theorem w_c7 : (Jvm.Cond.code ({ cls := "com/example/aeacus/aeacus/log/Outcome", name := "of", desc := "(Ljava/lang/String;)Lcom/example/aeacus/aeacus/log/Outcome;" } : Jvm.MethodName) prog_29_method_5_code (5 : Nat) (Option.some (Jvm.ClassFile.FieldType.object "com/example/aeacus/aeacus/log/Outcome"))).before args0 about1 = true := code_word (m := ⟨6, 2⟩) (meth := k6m2) (c := k6c2) (by decide +kernel) rfl rfl rfl (by decide +kernel)
set_option maxRecDepth 65536 in
theorem w_c8 : (Jvm.Cond.code ({ cls := "com/example/aeacus/aeacus/log/Outcome", name := "values", desc := "()[Lcom/example/aeacus/aeacus/log/Outcome;" } : Jvm.MethodName) prog_29_method_1_code (0 : Nat) (Option.some (Jvm.ClassFile.FieldType.array (Jvm.ClassFile.FieldType.object "com/example/aeacus/aeacus/log/Outcome")))).before args0 about1 = true := code_word (m := ⟨6, 0⟩) (meth := k6m0) (c := k6c0) (by decide +kernel) rfl rfl rfl (by decide +kernel)
set_option maxRecDepth 65536 in
theorem w_c9 : (Jvm.Cond.code ({ cls := "java/lang/String", name := "equals", desc := "(Ljava/lang/Object;)Z" } : Jvm.MethodName) jdk_42_method_66_code (3 : Nat) (Option.some Jvm.ClassFile.FieldType.boolean)).before args0 about1 = true := code_word (m := ⟨9, 2⟩) (meth := k9m2) (c := k9c2) (by decide +kernel) rfl rfl rfl (by decide +kernel)
set_option maxRecDepth 65536 in
theorem w_c10 : (Jvm.Cond.code ({ cls := "java/lang/StringLatin1", name := "equals", desc := "([B[B)Z" } : Jvm.MethodName) jdk_43_method_13_code (3 : Nat) (Option.some Jvm.ClassFile.FieldType.boolean)).before args0 about1 = true := code_word (m := ⟨12, 1⟩) (meth := k12m1) (c := k12c1) (by decide +kernel) rfl rfl rfl (by decide +kernel)
set_option maxRecDepth 65536 in
theorem w_c11 : (Jvm.Cond.code ({ cls := "com/example/aeacus/aeacus/log/Outcome", name := "label", desc := "()Ljava/lang/String;" } : Jvm.MethodName) prog_29_method_4_code (1 : Nat) (Option.some (Jvm.ClassFile.FieldType.object "java/lang/String"))).before args0 about1 = true := code_word (m := ⟨6, 1⟩) (meth := k6m1) (c := k6c1) (by decide +kernel) rfl rfl rfl (by decide +kernel)
def codes1 : List Jvm.Cond := [Jvm.Cond.code x code maxLocals ret, Jvm.Cond.code ({ cls := "java/lang/String", name := "<init>", desc := "([C)V" } : Jvm.MethodName) jdk_42_method_3_code (2 : Nat) (Option.none : Option Jvm.ClassFile.FieldType), Jvm.Cond.code ({ cls := "java/lang/String", name := "<init>", desc := "([CIILjava/lang/Void;)V" } : Jvm.MethodName) jdk_42_method_149_code (6 : Nat) (Option.none : Option Jvm.ClassFile.FieldType), Jvm.Cond.code ({ cls := "java/lang/Object", name := "<init>", desc := "()V" } : Jvm.MethodName) object_method_1_code (1 : Nat) (Option.none : Option Jvm.ClassFile.FieldType), Jvm.Cond.code ({ cls := "java/lang/StringUTF16", name := "compress", desc := "([CII)[B" } : Jvm.MethodName) jdk_52_method_16_code (6 : Nat) (Option.some (Jvm.ClassFile.FieldType.array Jvm.ClassFile.FieldType.byte)), Jvm.Cond.code ({ cls := "java/lang/StringUTF16", name := "compress", desc := "([CI[BII)I" } : Jvm.MethodName) jdk_52_method_21_code (7 : Nat) (Option.some Jvm.ClassFile.FieldType.int), Jvm.Cond.code ({ cls := "java/lang/StringUTF16", name := "coderFromArrayLen", desc := "([BI)B" } : Jvm.MethodName) jdk_52_method_15_code (2 : Nat) (Option.some Jvm.ClassFile.FieldType.byte), Jvm.Cond.code ({ cls := "com/example/aeacus/aeacus/log/Outcome", name := "of", desc := "(Ljava/lang/String;)Lcom/example/aeacus/aeacus/log/Outcome;" } : Jvm.MethodName) prog_29_method_5_code (5 : Nat) (Option.some (Jvm.ClassFile.FieldType.object "com/example/aeacus/aeacus/log/Outcome")), Jvm.Cond.code ({ cls := "com/example/aeacus/aeacus/log/Outcome", name := "values", desc := "()[Lcom/example/aeacus/aeacus/log/Outcome;" } : Jvm.MethodName) prog_29_method_1_code (0 : Nat) (Option.some (Jvm.ClassFile.FieldType.array (Jvm.ClassFile.FieldType.object "com/example/aeacus/aeacus/log/Outcome"))), Jvm.Cond.code ({ cls := "java/lang/String", name := "equals", desc := "(Ljava/lang/Object;)Z" } : Jvm.MethodName) jdk_42_method_66_code (3 : Nat) (Option.some Jvm.ClassFile.FieldType.boolean), Jvm.Cond.code ({ cls := "java/lang/StringLatin1", name := "equals", desc := "([B[B)Z" } : Jvm.MethodName) jdk_43_method_13_code (3 : Nat) (Option.some Jvm.ClassFile.FieldType.boolean), Jvm.Cond.code ({ cls := "com/example/aeacus/aeacus/log/Outcome", name := "label", desc := "()Ljava/lang/String;" } : Jvm.MethodName) prog_29_method_4_code (1 : Nat) (Option.some (Jvm.ClassFile.FieldType.object "java/lang/String"))]
set_option maxRecDepth 65536 in
theorem codes_eq : words1.filter isCode = codes1 := rfl
theorem w_codes : ∀ c ∈ words1.filter isCode, c.before args0 about1 = true := by
  rw [codes_eq]
  intro c hc
  simp only [codes1, List.mem_cons, List.not_mem_nil, or_false] at hc
  rcases hc with rfl | rfl | rfl | rfl | rfl | rfl | rfl | rfl | rfl | rfl | rfl | rfl
  · exact w_c0
  · exact w_c1
  · exact w_c2
  · exact w_c3
  · exact w_c4
  · exact w_c5
  · exact w_c6
  · exact w_c7
  · exact w_c8
  · exact w_c9
  · exact w_c10
  · exact w_c11
set_option maxRecDepth 65536 in
theorem w_t1 : (words1.take 24).all (fun c => isCode c || c.before args0 about1) = true := by decide +kernel
set_option maxRecDepth 65536 in
theorem w_t2 : ((words1.drop 24).take 24).all (fun c => isCode c || c.before args0 about1) = true := by decide +kernel
set_option maxRecDepth 65536 in
theorem w_t3 : (((words1.drop 24).drop 24).take 24).all (fun c => isCode c || c.before args0 about1) = true := by decide +kernel
set_option maxRecDepth 65536 in
theorem w_t4 : (((words1.drop 24).drop 24).drop 24).all (fun c => isCode c || c.before args0 about1) = true := by decide +kernel
theorem w_tables : (allAtoms (Jvm.Cond.code x code maxLocals ret :: tables_1)).before args0 about1 = true := by
  rw [allAtoms_all]
  show words1.all (fun c => c.before args0 about1) = true
  refine all_split ?_ w_codes
  rw [← List.take_append_drop 24 words1, List.all_append, w_t1, ← List.take_append_drop 24 (words1.drop 24), List.all_append, w_t2, ← List.take_append_drop 24 ((words1.drop 24).drop 24), List.all_append, w_t3, w_t4]
  rfl
set_option maxRecDepth 65536 in
theorem w_rest : rest_1_c.before args0 about1 = true := by decide +kernel
set_option maxRecDepth 65536 in
theorem w_case : (Jvm.Cond.and given_1 narrow_1).before args0 about1 = true := by decide +kernel
theorem w_applies : (headSpec (Jvm.Cond.code x code maxLocals ret :: tables_1) room_1).applies x e0.platform about1 = true :=
  (Spec.applies_iff w_frames).mpr ⟨w_running, w_runnable, w_alone, w_named, w_hears, w_ripe, w_room, w_tables⟩
theorem atStart : AtStart classFile x code maxLocals ret World_1 tables_1 room_1 Calls_1 rest_1 Pre_1 launch0 p0 e0 about1 theMethod args0 below0 :=
  ⟨lists_1, trivial, launch0.admits_env _ _ _, launch0.least_env, fairChoices_fair.cas, fairChoices_fair.clock, w_frames, w_args, w_heap, w_applies, trivial, w_rest, w_case⟩
end start1
theorem witness_1 : WitnessClaimed_1 := ⟨start1.p0, start1.e0, start1.about1, start1.theMethod, start1.args0, start1.below0, start1.atStart⟩
end Jvm.Pilot.@@N@@
